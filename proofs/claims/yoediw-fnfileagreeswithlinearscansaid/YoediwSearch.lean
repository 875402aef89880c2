/-
  The closure of searchFiles (function 24), sort.Search (function 23), searchFiles (function 22).
-/
import Derived.Test.YoediwBase
import Derived.Deep.LoopGhost
import Derived.Deep.Draws
import Derived.Deep.QuietTactic
import Derived.BigQuiet
namespace Go.Proofs.Yoediw
open Go.RowKit

set_option maxHeartbeats 400000 in
theorem closure_any (ba bx blk off cap n i f : Nat) (x y : Int) (W : World) (hi : i < n)
    (ha : W.cell? ⟨ba, 0, none⟩ = some (.slice (some ⟨blk, off, none⟩) n cap)) (hx : W.cell? ⟨bx, 0, none⟩ = some (.int .i64 x))
    (hc : W.cell? ⟨blk, off + i, none⟩ = some (.pointer (some ⟨f, 0, none⟩))) (hf : W.cell? ⟨f, 2, none⟩ = some (.int .i64 y)) :
    Calls Edig.prog 24 #[.int .i64 (i : Int), .pointer (some ⟨ba, 0, none⟩), .pointer (some ⟨bx, 0, none⟩)] W fun e w' => e = .returned (.bool (decide (x < y))) ∧ ∃ q, w' = W.drewN q := by
  have hiz : (i : Int) < (n : Int) := by omega
  go_enter Edig.func24, Edig.ntmps24
  go_wp2
  go_quiet (fail)
  go_wp2
  go_ret
  exact ⟨rfl, _, rfl⟩

/-- The answer of a binary search: below r nothing says yes, from r on all do. -/
def Cut (p : Nat → Bool) (n r : Nat) : Prop := r ≤ n ∧ (∀ t, t < r → p t = false) ∧ (∀ t, r ≤ t → t < n → p t = true)

set_option maxHeartbeats 400000 in
theorem search_any (cb : Array Value) (n : Nat) (p : Nat → Bool) (w : World) (hn : n ≤ 1048576)
    (hf : ∀ (m i : Nat), i < n → Calls Edig.prog 24 (#[.int .i64 (i : Int)] ++ cb) (w.drewN m) fun e w' => e = .returned (.bool (p i)) ∧ ∃ q, w' = (w.drewN m).drewN q)
    (hmono : ∀ a b, a ≤ b → b < n → p a = true → p b = true) :
    Calls Edig.prog 23 #[.int .i64 (n : Int), .func (.func 24) #[] cb] w fun e w' => ∃ r : Nat, e = .returned (.int .i64 (r : Int)) ∧ Cut p n r ∧ ∃ q, w' = w.drewN q := by
  have HF : Hid (∀ (m i : Nat), i < n → Calls Edig.prog 24 (#[.int .i64 (i : Int)] ++ cb) (w.drewN m) fun e w' => e = .returned (.bool (p i)) ∧ ∃ q, w' = (w.drewN m).drewN q) := hf
  have M : Hid (∀ a b, a ≤ b → b < n → p a = true → p b = true) := hmono
  clear hf hmono
  have eg : ∀ args w, (callFunc 24 args).run Edig.prog w = .ok (.enter 24 args) w := fun args w => by kernel_rfl
  go_enter Edig.func23, Edig.ntmps23
  go_wp2
  go_loopg [5, 6] n (fun kx s5 s6 wr => ∃ (lo hi q : Nat), s5 = .int .i64 (lo : Int) ∧ s6 = .int .i64 (hi : Int) ∧ lo ≤ hi ∧ hi ≤ n ∧ hi - lo ≤ kx ∧ wr = w.drewN q ∧
    Hid ((∀ t, t < lo → p t = false) ∧ (∀ t, hi ≤ t → t < n → p t = true)))
  case atStart => exact ⟨0, n, 0, rfl, rfl, Nat.zero_le _, Nat.le_refl _, by omega, rfl, (⟨fun t ht => absurd ht (Nat.not_lt_zero _), fun t h1 h2 => by omega⟩ : (∀ t, t < 0 → p t = false) ∧ (∀ t, n ≤ t → t < n → p t = true))⟩
  case round =>
    obtain ⟨lo, hi, q, rfl, rfl, hlh, hin, hg, rfl, I⟩ := hrel
    by_cases hlt : lo < hi
    · have hc := HF.out q ((lo + hi) / 2) (by omega)
      rw [show (((lo + hi) / 2 : Nat) : Int) = ((lo : Int) + (hi : Int)) / 2 by omega] at hc
      cases hp : p ((lo + hi) / 2) <;> rw [hp] at hc
      · have HP : Hid (p ((lo + hi) / 2) = false) := hp
        clear hp
        go_wp2_with (go_at_call 24; refine hc.mono ?_; rintro e w' ⟨rfl, nq, rfl⟩)
        go_roundg (hi - ((lo + hi) / 2 + 1))
        case measure => omega
        case rel =>
          have I2 : Hid ((∀ t, t < (lo + hi) / 2 + 1 → p t = false) ∧ (∀ t, hi ≤ t → t < n → p t = true)) := ⟨fun t ht => (by
            cases h : p t with
            | false => rfl
            | true => have := M.out t ((lo + hi) / 2) (by omega) (by omega) h; rw [HP.out] at this; cases this), I.out.2⟩
          exact ⟨(lo + hi) / 2 + 1, hi, q + nq, by rw [show ((lo : Int) + (hi : Int)) / 2 + 1 = (((lo + hi) / 2 + 1 : Nat) : Int) by omega], rfl, by omega, hin, Nat.le_refl _, rfl, I2⟩
      · have HP : Hid (p ((lo + hi) / 2) = true) := hp
        clear hp
        go_wp2_with (go_at_call 24; refine hc.mono ?_; rintro e w' ⟨rfl, nq, rfl⟩)
        go_roundg ((lo + hi) / 2 - lo)
        case measure => omega
        case rel =>
          have I2 : Hid ((∀ t, t < lo → p t = false) ∧ (∀ t, (lo + hi) / 2 ≤ t → t < n → p t = true)) := ⟨I.out.1, fun t ht htn => M.out ((lo + hi) / 2) t ht htn HP.out⟩
          exact ⟨lo, (lo + hi) / 2, q + nq, rfl, by rw [show ((lo : Int) + (hi : Int)) / 2 = (((lo + hi) / 2 : Nat) : Int) by omega], by omega, by omega, Nat.le_refl _, rfl, I2⟩
    · obtain rfl : hi = lo := by omega
      go_wp2
      go_ret
      exact ⟨hi, rfl, ⟨hin, I.out⟩, q, rfl⟩

theorem below_drewN {B : Nat} {a w : World} (h : Below B a w) (q : Nat) : Below B a (w.drewN q) := ⟨h.os, h.tape, h.output, h.size, h.block⟩

theorem hideIt {p : Prop} (h : p) : Hid p := h

theorem cell_two {w : World} {b i : Nat} {v : Value} (o o' : Obj) (h : w.cell? ⟨b, i, none⟩ = some v) : ((w.alloc o).alloc o').cell? ⟨b, i, none⟩ = some v := by
  have := lt_of_cell h
  rw [World.cell?_alloc_past _ _ _ (by simp; omega), World.cell?_alloc_past _ _ _ this, h]

set_option maxHeartbeats 400000 in
theorem searchFiles_any (a : Option Addr) (n cap : Nat) (x : Int) (q : Nat → Nat) (base : Nat → Int) (w : World) (hn : n ≤ 1048576)
    (hr : RowV w a n (fun j => .pointer (some ⟨q j, 0, none⟩))) (hb : ∀ j, j < n → w.cell? ⟨q j, 2, none⟩ = some (.int .i64 (base j)))
    (hm : ∀ i j, i ≤ j → j < n → base i ≤ base j) :
    Calls Edig.prog 22 #[.slice a n cap, .int .i64 x] w fun e w' => ∃ r : Nat, e = .returned (.int .i64 ((r : Int) - 1)) ∧ Cut (fun t => decide (x < base t)) n r ∧ Below w.heap.size w w' := by
  have hs := search_any #[.pointer (some ⟨w.heap.size, 0, none⟩), .pointer (some ⟨w.heap.size + 1, 0, none⟩)] n (fun t => decide (x < base t)) ((w.alloc (.cells #[.slice a n cap] 27)).alloc (.cells #[.int .i64 x] 3)) hn
    (fun m i hi => by
      obtain ⟨b, off, rfl, hc⟩ := hr i hi
      have hqb := hb i hi
      refine closure_any w.heap.size (w.heap.size + 1) b off cap n i (q i) x (base i) _ hi ?_ ?_ ?_ ?_
      · show ((w.alloc (.cells #[.slice (some ⟨b, off, none⟩) n cap] 27)).alloc (.cells #[.int .i64 x] 3)).cell? _ = _
        rw [World.cell?_alloc2_first]; rfl
      · show ((w.alloc (.cells #[.slice (some ⟨b, off, none⟩) n cap] 27)).alloc (.cells #[.int .i64 x] 3)).cell? _ = _
        rw [World.cell?_alloc_at _ _ _ _ (by simp)]; rfl
      · exact cell_two _ _ hc
      · exact cell_two _ _ hqb)
    (fun i j hij hj h => by simp at h ⊢; have := hm i j hij hj; omega)
  have HS := hideIt hs
  clear hs hr hb hm
  go_enter Edig.func22, Edig.ntmps22
  go_wp2_with fail
  refine HS.out.mono ?_
  rintro e w' ⟨r, rfl, hcut, nq, rfl⟩
  have hr := hcut.1
  go_wp2
  go_ret
  exact ⟨r, rfl, hcut, below_drewN (((Below.refl _ _).alloc (Nat.le_refl _) _).alloc (by simp) _) nq⟩

end Go.Proofs.Yoediw
