/-
  zzCloneInts (function 9), zzCloneStrings (function 17).
-/
import Derived.Test.YoediwBase
namespace Go.Proofs.Yoediw
open Go.RowKit

theorem clone_nil (w : World) : Calls Edig.prog 9 #[.slice none 0 0] w fun e w' => e = .returned (.slice none 0 0) ∧ w' = w := by
  have hnil : ∀ W, (binOp .eql 22 (.slice none 0 0) (.slice none 0 0)).run Edig.prog W = .ok (.bool true) W := fun W => Lib.run_eql_slice_nil_nil W _ _ Edig.underlying22
  go_enter Edig.func9, Edig.ntmps9
  go_wp2
  go_ret
  exact ⟨rfl, rfl⟩

set_option maxHeartbeats 400000 in
theorem clone_some (a : Addr) (n cap : Nat) (z : Nat → Int) (w : World) (hn : n ≤ 1048576) (hr : RowV w (some a) n (fun j => .int .i64 (z j))) :
    Calls Edig.prog 9 #[.slice (some a) n cap] w fun e w' => e = .returned (.slice (some ⟨w.heap.size, 0, none⟩) n n) ∧ Fill w.heap.size n n (fun j => .int .i64 (z j)) w' ∧ Below w.heap.size w w' ∧ w'.heap.size = w.heap.size + 1 := by
  have hnil : ∀ W, (binOp .eql 22 (.slice (some a) n cap) (.slice none 0 0)).run Edig.prog W = .ok (.bool false) W := fun W => Lib.run_eql_slice_some_nil W _ _ _ Edig.underlying22
  have hmk := mk22 n hn
  go_enter Edig.func9, Edig.ntmps9
  go_wp2
  go_loopw [4] (fun i wr => ∃ k : Nat, k ≤ n ∧ i = .int .i64 (k : Int) ∧ Fill w.heap.size n k (fun j => .int .i64 (z j)) wr ∧ Below w.heap.size w wr ∧ wr.heap.size = w.heap.size + 1) (fun i _ => n - (intOf i).toNat)
  case atStart => exact ⟨0, Nat.zero_le _, rfl, Fill.start _ _ _ _ _, (Below.refl _ _).alloc (Nat.le_refl _) _, by simp⟩
  case round =>
    obtain ⟨k, hk, rfl, hf, hb, hs⟩ := hrel
    clear hnil hmk
    by_cases hlt : k < n
    · obtain ⟨b, off, e, hc⟩ := hr k hlt
      cases e
      have hc' : wr.cell? ⟨b, off + k, none⟩ = some (.int .i64 (z k)) := by rw [hb.cell (lt_of_cell hc)]; exact hc
      obtain ⟨x, hx⟩ := hf.has k hlt
      have hz := hf.free k hlt
      have HF : Hid (Fill w.heap.size n (k + 1) (fun j => .int .i64 (z j)) (wr.setCell ⟨w.heap.size, k, none⟩ (.int .i64 (z k))) ∧ Below w.heap.size w (wr.setCell ⟨w.heap.size, k, none⟩ (.int .i64 (z k))) ∧ (wr.setCell ⟨w.heap.size, k, none⟩ (.int .i64 (z k))).heap.size = w.heap.size + 1) :=
        ⟨hf.put hlt, hb.setCell (Nat.le_refl _) _, by simpa [World.setCell] using hs⟩
      clear hf hb hs hr hc
      go_wp2
      go_roundw
      case rel => exact ⟨k + 1, by omega, by go_num, HF.out⟩
      case measure => simp [intOf]; omega
    · have e : k = n := by omega
      subst e
      clear hr
      have HF : Hid (Fill w.heap.size k k (fun j => .int .i64 (z j)) wr ∧ Below w.heap.size w wr ∧ wr.heap.size = w.heap.size + 1) := ⟨hf, hb, hs⟩
      clear hf hb hs
      go_wp2
      go_ret
      exact ⟨rfl, HF.out⟩

theorem cloneS_nil (w : World) : Calls Edig.prog 17 #[.slice none 0 0] w fun e w' => e = .returned (.slice none 0 0) ∧ w' = w := by
  have hnil : ∀ W, (binOp .eql 37 (.slice none 0 0) (.slice none 0 0)).run Edig.prog W = .ok (.bool true) W := fun W => Lib.run_eql_slice_nil_nil W _ _ Edig.underlying37
  go_enter Edig.func17, Edig.ntmps17
  go_wp2
  go_ret
  exact ⟨rfl, rfl⟩

set_option maxHeartbeats 400000 in
theorem cloneS_some (a : Addr) (n cap : Nat) (z : Nat → ByteArray) (w : World) (hn : n ≤ 1048576) (hr : RowV w (some a) n (fun j => .string (z j))) :
    Calls Edig.prog 17 #[.slice (some a) n cap] w fun e w' => e = .returned (.slice (some ⟨w.heap.size, 0, none⟩) n n) ∧ Fill w.heap.size n n (fun j => .string (z j)) w' ∧ Below w.heap.size w w' ∧ w'.heap.size = w.heap.size + 1 := by
  have hnil : ∀ W, (binOp .eql 37 (.slice (some a) n cap) (.slice none 0 0)).run Edig.prog W = .ok (.bool false) W := fun W => Lib.run_eql_slice_some_nil W _ _ _ Edig.underlying37
  have hmk := mk37 n hn
  go_enter Edig.func17, Edig.ntmps17
  go_wp2
  go_loopw [4] (fun i wr => ∃ k : Nat, k ≤ n ∧ i = .int .i64 (k : Int) ∧ Fill w.heap.size n k (fun j => .string (z j)) wr ∧ Below w.heap.size w wr ∧ wr.heap.size = w.heap.size + 1) (fun i _ => n - (intOf i).toNat)
  case atStart => exact ⟨0, Nat.zero_le _, rfl, Fill.start _ _ _ _ _, (Below.refl _ _).alloc (Nat.le_refl _) _, by simp⟩
  case round =>
    obtain ⟨k, hk, rfl, hf, hb, hs⟩ := hrel
    clear hnil hmk
    by_cases hlt : k < n
    · obtain ⟨b, off, e, hc⟩ := hr k hlt
      cases e
      have hc' : wr.cell? ⟨b, off + k, none⟩ = some (.string (z k)) := by rw [hb.cell (lt_of_cell hc)]; exact hc
      obtain ⟨x, hx⟩ := hf.has k hlt
      have hz := hf.free k hlt
      have HF : Hid (Fill w.heap.size n (k + 1) (fun j => .string (z j)) (wr.setCell ⟨w.heap.size, k, none⟩ (.string (z k))) ∧ Below w.heap.size w (wr.setCell ⟨w.heap.size, k, none⟩ (.string (z k))) ∧ (wr.setCell ⟨w.heap.size, k, none⟩ (.string (z k))).heap.size = w.heap.size + 1) :=
        ⟨hf.put hlt, hb.setCell (Nat.le_refl _) _, by simpa [World.setCell] using hs⟩
      clear hf hb hs hr hc
      go_wp2
      go_roundw
      case rel => exact ⟨k + 1, by omega, by go_num, HF.out⟩
      case measure => simp [intOf]; omega
    · have e : k = n := by omega
      subst e
      clear hr
      have HF : Hid (Fill w.heap.size k k (fun j => .string (z j)) wr ∧ Below w.heap.size w wr ∧ wr.heap.size = w.heap.size + 1) := ⟨hf, hb, hs⟩
      clear hf hb hs
      go_wp2
      go_ret
      exact ⟨rfl, HF.out⟩


/-- One contract for both: the clone's cells are as the first's; what was there is as it was. -/
theorem clone_any (a : Option Addr) (n cap : Nat) (z : Nat → Int) (w : World) (hn : n ≤ 1048576) (ha : a = none → n = 0 ∧ cap = 0) (hr : RowV w a n (fun j => .int .i64 (z j))) :
    Calls Edig.prog 9 #[.slice a n cap] w fun e w' => ∃ a' cap', e = .returned (.slice a' n cap') ∧ RowV w' a' n (fun j => .int .i64 (z j)) ∧ Below w.heap.size w w' := by
  cases a with
  | none =>
    obtain ⟨rfl, rfl⟩ := ha rfl
    refine (clone_nil w).mono ?_
    rintro e w' ⟨rfl, rfl⟩
    exact ⟨none, 0, rfl, RowV.nil _ _ _, Below.refl _ _⟩
  | some a =>
    refine (clone_some a n cap z w hn hr).mono ?_
    rintro e w' ⟨rfl, hf, hb, _⟩
    exact ⟨_, _, rfl, hf.row, hb⟩

theorem cloneS_any (a : Option Addr) (n cap : Nat) (z : Nat → ByteArray) (w : World) (hn : n ≤ 1048576) (ha : a = none → n = 0 ∧ cap = 0) (hr : RowV w a n (fun j => .string (z j))) :
    Calls Edig.prog 17 #[.slice a n cap] w fun e w' => ∃ a' cap', e = .returned (.slice a' n cap') ∧ RowV w' a' n (fun j => .string (z j)) ∧ Below w.heap.size w w' := by
  cases a with
  | none =>
    obtain ⟨rfl, rfl⟩ := ha rfl
    refine (cloneS_nil w).mono ?_
    rintro e w' ⟨rfl, rfl⟩
    exact ⟨none, 0, rfl, RowV.nil _ _ _, Below.refl _ _⟩
  | some a =>
    refine (cloneS_some a n cap z w hn hr).mono ?_
    rintro e w' ⟨rfl, hf, hb, _⟩
    exact ⟨_, _, rfl, hf.row, hb⟩

end Go.Proofs.Yoediw
