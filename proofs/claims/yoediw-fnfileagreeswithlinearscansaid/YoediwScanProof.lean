/-
  FnFileAgreesWithLinearScan: the statement, proved (the frame: the seed's shell, turned).
-/
import Derived.Test.YoediwScanWalk
import Derived.WalkKit
import Derived.ProofKit
import Derived.OpenShut
import Derived.ShutString
import Derived.ChangeOld
import Derived.SliceStrings
import Derived.Below
namespace Go.Proofs.Yoediw.fnFileAgreesWithLinearScan
open Go.ChangeShapes Go.WideShapes Go.ChangeAt Go.RowKit
set_option linter.unusedVariables false

theorem own : ownKnob Edig.prog.godebug = none := by kernel_rfl
theorem laidOut : laidOutB Edig.prog = true := by kernel_rfl

set_option maxRecDepth 100000 in
theorem lifted (os : Os) (started : os.Started) (H : Type) (enc : TypeId × Value → H) :
    ReturnsInHanded {} Edig.checked os 6 .any (Rows.fnFileAgreesWithLinearScanSpec.pre6 enc Edig.prog Edig.f6 Rows.fnFileAgreesWithLinearScanRow.domain false) (Rows.fnFileAgreesWithLinearScanSpec.post enc Edig.prog Edig.f6 false true false false) := by
  refine returnsInHanded_of_change (C := Edig.checked) own started (by kernel_rfl) Edig.func6
    (ChangeSpec.witness6 (enc := enc) (C := Edig.checked) false ⟨#[], #[.slice none 0 0, .slice none 0 0, .slice none 0 0, .slice none 0 0], []⟩ 8 (by kernel_rfl) (by kernel_rfl) (by kernel_rfl) (by kernel_rfl)) ?_
  intro W base args ds gs before hval0 hW hcnd _
  have hval : ∀ (j : Nat) t v, Edig.f6.params[j]? = some t → args[j]? = some v → Value.okWide Edig.prog W .any base t v := hval0
  have hW' := hW
  obtain ⟨p, q, hA0, hV, rfl, hfz, hnd⟩ := hW
  have hA : DataW.TrodAll enc Edig.prog W 0 (fun _ => true) true Edig.f6.params.toList args.toList ds p := hA0
  rw [Edig.params6] at hA hval
  obtain ⟨v0, vs0, d0, ds0, p0, q0, hargs, rfl, rfl, h0, r0⟩ := trodAll_cons hA
  obtain ⟨v1, vs1, d1, ds1, p1, q1, rfl, rfl, rfl, h1, r1⟩ := trodAll_cons r0
  obtain ⟨v2, vs2, d2, ds2, p2, q2, rfl, rfl, rfl, h2, r2⟩ := trodAll_cons r1
  obtain ⟨v3, vs3, d3, ds3, p3, q3, rfl, rfl, rfl, h3, r3⟩ := trodAll_cons r2
  obtain ⟨rfl, rfl, rfl⟩ := trodAll_nil r3
  obtain rfl : args = #[v0, v1, v2, v3] := by cases args; simp_all
  obtain ⟨rfl, rfl⟩ := trodVars_none hV
  obtain ⟨a0, len0, cap0, rfl⟩ := okWide_slice Edig.underlying37 (hval 0 37 v0 rfl rfl)
  have k0 := h0
  have lt0 : ∀ x ∈ p0, x.block < W.heap.size := by obtain ⟨m, hm⟩ := k0; exact DataW.trod_lt m _ _ _ hm
  obtain ⟨z0, w0⟩ : ∃ z, StrArg W a0 len0 cap0 z := by
    obtain ⟨fuel, hf⟩ := h0
    rcases open_strings Edig.underlying37 Edig.underlying9 (by kernel_rfl) hf with ⟨hcs, _⟩ | ⟨x, l, c, ss, hcs, _, hl, hm, hz, _, hcell, hws⟩
    · simp [Value.cells] at hcs
      obtain ⟨rfl, rfl, rfl⟩ := hcs
      exact ⟨fun _ => ⟨#[]⟩, ⟨fun _ => ⟨rfl, rfl⟩, Nat.zero_le _, RowV.nil _ _ _⟩⟩
    · simp [Value.cells] at hcs
      obtain ⟨rfl, rfl, rfl⟩ := hcs
      have hz' : ss.length = cap0 := by simpa using hz
      exact ⟨fun j => ss.getD j ByteArray.empty, ⟨(fun e => by cases e), Nat.le_trans hl hm, row_of_cells (fun j hj => hcell j (by omega))⟩⟩
  obtain ⟨a1, len1, cap1, rfl⟩ := okWide_slice Edig.underlying22 (hval 1 22 v1 rfl rfl)
  have k1 := h1
  have lt1 : ∀ x ∈ p1, x.block < W.heap.size := by obtain ⟨m, hm⟩ := k1; exact DataW.trod_lt m _ _ _ hm
  obtain ⟨z1, w1⟩ : ∃ z, IntArg W a1 len1 cap1 z := by
    obtain ⟨fuel, hf⟩ := h1
    rcases open_ints Edig.underlying22 Edig.underlying3 (by kernel_rfl) hf with ⟨hcs, _⟩ | ⟨x, l, c, zs, hcs, _, hl, hm, hz, _, hcell, hwz⟩
    · simp [Value.cells] at hcs
      obtain ⟨rfl, rfl, rfl⟩ := hcs
      exact ⟨_, IsRow.arg (zs := []) (.inl ⟨rfl, rfl, rfl, rfl⟩)⟩
    · simp [Value.cells] at hcs
      obtain ⟨rfl, rfl, rfl⟩ := hcs
      exact ⟨_, IsRow.arg (zs := zs) (.inr ⟨_, rfl, hl, hm, by simpa using hz, hcell, hwz⟩)⟩
  obtain ⟨a2, len2, cap2, rfl⟩ := okWide_slice Edig.underlying22 (hval 2 22 v2 rfl rfl)
  have k2 := h2
  have lt2 : ∀ x ∈ p2, x.block < W.heap.size := by obtain ⟨m, hm⟩ := k2; exact DataW.trod_lt m _ _ _ hm
  obtain ⟨z2, w2⟩ : ∃ z, IntArg W a2 len2 cap2 z := by
    obtain ⟨fuel, hf⟩ := h2
    rcases open_ints Edig.underlying22 Edig.underlying3 (by kernel_rfl) hf with ⟨hcs, _⟩ | ⟨x, l, c, zs, hcs, _, hl, hm, hz, _, hcell, hwz⟩
    · simp [Value.cells] at hcs
      obtain ⟨rfl, rfl, rfl⟩ := hcs
      exact ⟨_, IsRow.arg (zs := []) (.inl ⟨rfl, rfl, rfl, rfl⟩)⟩
    · simp [Value.cells] at hcs
      obtain ⟨rfl, rfl, rfl⟩ := hcs
      exact ⟨_, IsRow.arg (zs := zs) (.inr ⟨_, rfl, hl, hm, by simpa using hz, hcell, hwz⟩)⟩
  obtain ⟨a3, len3, cap3, rfl⟩ := okWide_slice Edig.underlying22 (hval 3 22 v3 rfl rfl)
  have k3 := h3
  have lt3 : ∀ x ∈ p3, x.block < W.heap.size := by obtain ⟨m, hm⟩ := k3; exact DataW.trod_lt m _ _ _ hm
  obtain ⟨z3, w3⟩ : ∃ z, IntArg W a3 len3 cap3 z := by
    obtain ⟨fuel, hf⟩ := h3
    rcases open_ints Edig.underlying22 Edig.underlying3 (by kernel_rfl) hf with ⟨hcs, _⟩ | ⟨x, l, c, zs, hcs, _, hl, hm, hz, _, hcell, hwz⟩
    · simp [Value.cells] at hcs
      obtain ⟨rfl, rfl, rfl⟩ := hcs
      exact ⟨_, IsRow.arg (zs := []) (.inl ⟨rfl, rfl, rfl, rfl⟩)⟩
    · simp [Value.cells] at hcs
      obtain ⟨rfl, rfl, rfl⟩ := hcs
      exact ⟨_, IsRow.arg (zs := zs) (.inr ⟨_, rfl, hl, hm, by simpa using hz, hcell, hwz⟩)⟩
  clear hA0 hval0
  refine (scan_any a0 a1 a2 a3 len0 len1 len2 len3 cap0 cap1 cap2 cap3 z0 z1 z2 z3 W w0 w1 w2 w3).mono fun e W' ⟨he, bel⟩ => ?_
  subst he
  exact ⟨_, rfl, _, _, _, [], _, [], hW', trodAll_mk1 (shut_bool Edig.underlying4 _), (trodAll_cons_mk (Below.trod laidOut (by kernel_rfl) (of_decide_eq_true (by kernel_rfl)) k0 bel lt0) (trodAll_cons_mk (Below.trod laidOut (by kernel_rfl) (of_decide_eq_true (by kernel_rfl)) k1 bel lt1) (trodAll_cons_mk (Below.trod laidOut (by kernel_rfl) (of_decide_eq_true (by kernel_rfl)) k2 bel lt2) (trodAll_cons_mk (Below.trod laidOut (by kernel_rfl) (of_decide_eq_true (by kernel_rfl)) k3 bel lt3) trodAll_mk0)))), rfl, bel.frame _, fun h => by cases h⟩

theorem over : Rows.fnFileAgreesWithLinearScanRow.holds Edig.pinned (OpenSpec.ofChange Rows.fnFileAgreesWithLinearScanSpec) :=
  OpenClaim.holds_of_wide 6 Edig.f6 rfl rfl rfl rfl rfl rfl rfl ⟨rfl, rfl, rfl, rfl, rfl⟩ rfl rfl rfl rfl rfl (by kernel_rfl) Edig.func6 (by kernel_rfl)
    (of_decide_eq_true (by kernel_rfl)) (by unfold Func.isWrapper; first | (rw [if_pos (by decide +kernel)]; kernel_rfl) | (rw [if_neg (by decide +kernel)]; exact ⟨rfl, rfl⟩))
    (fun os started H enc _ => lifted os started H enc)
end Go.Proofs.Yoediw.fnFileAgreesWithLinearScan

namespace Go.Proofs.Yoediw
/-- The statement. -/
theorem scan_proved : Rows.FnFileAgreesWithLinearScanSaid := fnFileAgreesWithLinearScan.over
end Go.Proofs.Yoediw
