/-
  FnSourceFilePosStringCaseTable: the told card, proved.
-/
import Derived.Test.YoediwFmtCards
import Derived.Test.YoediwFmtCaseWalk
import Derived.ProofKit
import Derived.OpenShut
import Derived.Stop.JoinedAt
import Derived.Stop.JoinedTold
import Derived.SevenToldRow
namespace Go.Proofs.YoediwFmt.Case
open Go.ChangeShapes Go.WideShapes Go.ChangeAt Go.RowKit Go.Kit
open Go.ChangeMaps (open_string shut_string)
open Go.Extern.Stop Go.Stop Go.Extern

theorem own : ownKnob Edig.prog.godebug = none := by kernel_rfl
theorem laidOut : laidOutB Edig.pinned.checked.prog = true := by kernel_rfl
theorem stops : Edig.pinned.checked.prog.stops = ["fmt.Sprintf"] := by kernel_rfl
theorem stopKnobs : Edig.pinned.checked.prog.stopKnobs = [] := by kernel_rfl
theorem quiet (os : Os) : Stop.quiet Edig.pinned.checked.prog os := by
  intro k hk
  rw [stopKnobs] at hk
  cases hk

set_option maxRecDepth 100000 in
theorem lifted (os : Os) (started : os.Started) (H : Type) (enc : TypeId × Value → H) :
    ReturnsInTold none {} Edig.checked os 3 .any Input.okWide ((OpenSpec.ofChange Rows.fnSourceFilePosStringCaseTableSpec).preRow enc Edig.prog Edig.f3 [] false []) (fun F => ((OpenSpec.ofChange Rows.fnSourceFilePosStringCaseTableSpec).at F).post enc Edig.prog Edig.f3 false true false false) (aloneAtReturn Edig.prog) nothingAlways := by
  refine returnsInTold_of_row (C := Edig.checked) (s := OpenSpec.ofChange Rows.fnSourceFilePosStringCaseTableSpec) (by kernel_rfl) own started (by kernel_rfl) Edig.func3
    (OpenSpec.witness_stopped (enc := enc) (C := Edig.checked) false ⟨#[], #[.string ByteArray.empty, .int .i64 0, .int .i64 0, .int .i64 0], []⟩ 8 (by kernel_rfl) (by kernel_rfl) (by kernel_rfl) (by kernel_rfl)) ?_
  intro F W base args ds gs before _ hF hval0 hW _ _ _ _ _
  have hval : ∀ (j : Nat) t v, Edig.f3.params[j]? = some t → args[j]? = some v → Value.okWide Edig.prog W .any base t v := hval0
  have hW' := hW
  obtain ⟨p, q, hA0, hV, rfl, hfz, hnd⟩ := hW
  have hA : DataW.TrodAll enc Edig.prog W 0 (fun _ => true) true Edig.f3.params.toList args.toList ds p := hA0
  rw [Edig.params3] at hA hval
  obtain ⟨v0, vs0, d0, ds0, p0, q0, hargs, rfl, rfl, h0, r0⟩ := trodAll_cons hA
  obtain ⟨v1, vs1, d1, ds1, p1, q1, rfl, rfl, rfl, h1, r1⟩ := trodAll_cons r0
  obtain ⟨v2, vs2, d2, ds2, p2, q2, rfl, rfl, rfl, h2, r2⟩ := trodAll_cons r1
  obtain ⟨v3, vs3, d3, ds3, p3, q3, rfl, rfl, rfl, h3, r3⟩ := trodAll_cons r2
  obtain ⟨rfl, rfl, rfl⟩ := trodAll_nil r3
  obtain rfl : args = #[v0, v1, v2, v3] := by cases args; simp_all
  obtain ⟨rfl, rfl⟩ := trodVars_none hV
  obtain ⟨a0, rfl, rfl, rfl, w0⟩ := open_string Edig.underlying9 (hval 0 9 v0 rfl rfl) h0
  obtain ⟨a1, rfl, rfl, rfl, w1⟩ := open_int Edig.underlying3 (hval 1 3 v1 rfl rfl) h1
  obtain ⟨a2, rfl, rfl, rfl, w2⟩ := open_int Edig.underlying3 (hval 2 3 v2 rfl rfl) h2
  obtain ⟨a3, rfl, rfl, rfl, w3⟩ := open_int Edig.underlying3 (hval 3 3 v3 rfl rfl) h3
  clear hA0 hval0
  simp only [List.append_nil] at hW'
  refine (case_any F a0 a1 a2 a3 W hF w2 w3).mono fun e W' ⟨he, hb⟩ => ?_
  subst he
  refine ⟨_, rfl, _, _, _, [], [], [], hW', ?_, ?_, rfl, hb.frame _, fun h => by cases h⟩
  · exact trodAll_mk1 (shut_bool Edig.underlying4 _)
  · exact trodAll_cons_mk (shut_string Edig.underlying9 w0) (trodAll_cons_mk (shut_int Edig.underlying3 w1) (trodAll_cons_mk (shut_int Edig.underlying3 w2) (trodAll_cons_mk (shut_int Edig.underlying3 w3) trodAll_mk0)))

theorem proved : Rows.FnSourceFilePosStringCaseTableToldSaid :=
  Claim7.holds_of_told_any 3 Edig.f3 "fmt.Sprintf" [] [] _ _ _ (by kernel_rfl) rfl rfl rfl laidOut (by kernel_rfl) rfl ⟨rfl, rfl, rfl, rfl, rfl, rfl, rfl⟩ rfl rfl (by kernel_rfl) (by kernel_rfl) Edig.func3 (by kernel_rfl)
    (of_decide_eq_true (by kernel_rfl)) (of_decide_eq_true (by kernel_rfl)) stops.symm rfl stopKnobs.symm (by kernel_rfl)
    (by kernel_rfl) (by kernel_rfl) (by kernel_rfl) (by kernel_rfl) (by kernel_rfl) (by kernel_rfl) (by kernel_rfl) (by kernel_rfl) (by kernel_rfl) rfl (by kernel_rfl) rfl rfl
    rfl rfl
    rfl (by kernel_rfl) (by kernel_rfl) (by kernel_rfl) (by decide) (by kernel_rfl)
    (OpenClaim.moreEntering_of (by kernel_rfl) (by kernel_rfl) (by kernel_rfl) (by kernel_rfl) (by kernel_rfl) (by kernel_rfl) (by kernel_rfl) (by kernel_rfl) (by kernel_rfl) (by kernel_rfl))
    ⟨_, WideRow.started_initial, quiet _⟩
    (fun os started _ H enc _ => lifted os started H enc)

end Go.Proofs.YoediwFmt.Case

namespace Go.Proofs.YoediwFmt
/-- The statement. -/
theorem case_told : Rows.FnSourceFilePosStringCaseTableToldSaid := Case.proved
end Go.Proofs.YoediwFmt
