/-
  FnNewFileSetFirstFileAndIndependence: the statement, proved (the frame: the seed's shell, turned).
-/
import Derived.Test.YoediwFirstWalk
import Derived.WalkKit
import Derived.ProofKit
import Derived.OpenShut
import Derived.ShutString
namespace Go.Proofs.Yoediw.fnNewFileSetFirstFileAndIndependence
open Go.ChangeShapes Go.WideShapes Go.ChangeAt Go.RowKit
open Go.ChangeMaps (open_string shut_string)
set_option linter.unusedVariables false

theorem own : ownKnob Edig.prog.godebug = none := by kernel_rfl

set_option maxRecDepth 100000 in
theorem lifted (os : Os) (started : os.Started) (H : Type) (enc : TypeId × Value → H) :
    ReturnsInHanded {} Edig.checked os 4 .any (Rows.fnNewFileSetFirstFileAndIndependenceSpec.pre6 enc Edig.prog Edig.f4 Rows.fnNewFileSetFirstFileAndIndependenceRow.domain false) (Rows.fnNewFileSetFirstFileAndIndependenceSpec.post enc Edig.prog Edig.f4 false true false false) := by
  refine returnsInHanded_of_change (C := Edig.checked) own started (by kernel_rfl) Edig.func4
    (ChangeSpec.witness6 (enc := enc) (C := Edig.checked) false ⟨#[], #[.string ByteArray.empty, .int .i64 0], []⟩ 8 (by kernel_rfl) (by kernel_rfl) (by kernel_rfl) (by kernel_rfl)) ?_
  intro W base args ds gs before hval0 hW hcnd _
  have hval : ∀ (j : Nat) t v, Edig.f4.params[j]? = some t → args[j]? = some v → Value.okWide Edig.prog W .any base t v := hval0
  have hW' := hW
  obtain ⟨p, q, hA0, hV, rfl, hfz, hnd⟩ := hW
  have hA : DataW.TrodAll enc Edig.prog W 0 (fun _ => true) true Edig.f4.params.toList args.toList ds p := hA0
  rw [Edig.params4] at hA hval
  obtain ⟨v0, vs0, d0, ds0, p0, q0, hargs, rfl, rfl, h0, r0⟩ := trodAll_cons hA
  obtain ⟨v1, vs1, d1, ds1, p1, q1, rfl, rfl, rfl, h1, r1⟩ := trodAll_cons r0
  obtain ⟨rfl, rfl, rfl⟩ := trodAll_nil r1
  obtain rfl : args = #[v0, v1] := by cases args; simp_all
  obtain ⟨rfl, rfl⟩ := trodVars_none hV
  obtain ⟨a0, rfl, rfl, rfl, w0⟩ := open_string Edig.underlying9 (hval 0 9 v0 rfl rfl) h0
  obtain ⟨a1, rfl, rfl, rfl, w1⟩ := open_int Edig.underlying3 (hval 1 3 v1 rfl rfl) h1
  clear hA0 hval0
  simp only [List.append_nil] at hW'
  refine (first_any a0 a1 W).mono fun e W' ⟨he, bel⟩ => ?_
  subst he
  exact ⟨_, rfl, _, _, _, [], [], [], hW', trodAll_mk1 (shut_bool Edig.underlying4 _), (trodAll_cons_mk (shut_string Edig.underlying9 w0) (trodAll_cons_mk (shut_int Edig.underlying3 w1) trodAll_mk0)), rfl, bel.frame _, fun h => by cases h⟩

theorem over : Rows.fnNewFileSetFirstFileAndIndependenceRow.holds Edig.pinned (OpenSpec.ofChange Rows.fnNewFileSetFirstFileAndIndependenceSpec) :=
  OpenClaim.holds_of_wide 4 Edig.f4 rfl rfl rfl rfl rfl rfl rfl ⟨rfl, rfl, rfl, rfl, rfl⟩ rfl rfl rfl rfl rfl (by kernel_rfl) Edig.func4 (by kernel_rfl)
    (of_decide_eq_true (by kernel_rfl)) (by unfold Func.isWrapper; first | (rw [if_pos (by decide +kernel)]; kernel_rfl) | (rw [if_neg (by decide +kernel)]; exact ⟨rfl, rfl⟩))
    (fun os started H enc _ => lifted os started H enc)

/-- The statement. -/
theorem proved : Rows.FnNewFileSetFirstFileAndIndependenceSaid :=
  over
end Go.Proofs.Yoediw.fnNewFileSetFirstFileAndIndependence

namespace Go.Proofs.Yoediw
/-- The statement. -/
theorem first_proved : Rows.FnNewFileSetFirstFileAndIndependenceSaid := fnNewFileSetFirstFileAndIndependence.proved
end Go.Proofs.Yoediw
