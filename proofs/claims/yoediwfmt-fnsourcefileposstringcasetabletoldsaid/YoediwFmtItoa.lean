/-
  zzItoa (function 7) writes the decimal numeral of every int.
-/
import Derived.Test.YoediwFmtPlain
import Derived.Laws.IdiomStrings
import Derived.Laws.BitsAllLaws
import Derived.Lib.ItoaMem
namespace Go.Proofs.YoediwFmt
open Go.RowKit Go.Extern.Stop Go.Stop Go.Extern Go.Lib

theorem nat_not (b : Nat) (h : b < 18446744073709551616) : 18446744073709551615 ^^^ b = 18446744073709551615 - b := by
  have e := BitVec.toNat_not (x := BitVec.ofNat 64 b)
  rw [← BitVec.allOnes_xor, BitVec.toNat_xor, BitVec.toNat_allOnes, BitVec.toNat_ofNat] at e
  rw [Nat.mod_eq_of_lt (by simpa using h)] at e
  simpa using e

theorem u64_com (u : Nat) (h1 : 1 ≤ u) (h2 : u ≤ 9223372036854775808) :
    bits .xor .u64 (if IntKind.u64.signed = true then -1 else IntKind.u64.max) (IntKind.u64.wrap (-(u : Int))) = (u : Int) - 1 := by
  have e1 : (if IntKind.u64.signed = true then -1 else IntKind.u64.max) = (18446744073709551615 : Int) := by decide
  have e2 : IntKind.u64.wrap (-(u : Int)) = 18446744073709551616 - (u : Int) := by
    simp [IntKind.wrap, IntKind.bits, IntKind.signed]; omega
  rw [e1, e2, u64_xor _ _ (by omega) (by omega) (by omega) (by omega)]
  have e3 : (18446744073709551616 - (u : Int)).toNat = 18446744073709551616 - u := by omega
  rw [e3]
  have e4 : (18446744073709551615 : Int).toNat = 18446744073709551615 := rfl
  rw [e4, nat_not _ (by omega)]
  omega

/-- Where the loop stands: v is what is left, l what lies in the array's tail. -/
def Inv (U v : Nat) (l : List UInt8) : Prop := if v = 0 then l = decDigits U else decDigits v ++ l = decDigits U

theorem Inv.start (U : Nat) (h : 1 ≤ U) : Inv U U [] := by
  unfold Inv; rw [if_neg (by omega)]; simp

theorem Inv.step {U v : Nat} {l : List UInt8} (h : Inv U v l) (hv : v ≠ 0) : Inv U (v / 10) (UInt8.ofNat (48 + v % 10) :: l) := by
  unfold Inv at h ⊢
  rw [if_neg hv] at h
  by_cases h10 : v < 10
  · rw [if_pos (by omega), ← h, decDigits, dif_pos h10]
    rw [Nat.mod_eq_of_lt h10]; rfl
  · rw [if_neg (by omega), ← h]
    conv => rhs; rw [decDigits, dif_neg h10]
    simp

theorem Inv.len {U v : Nat} {l : List UInt8} (h : Inv U v l) (hv : v ≠ 0) (hU : (decDigits U).length ≤ 21) : l.length ≤ 20 := by
  unfold Inv at h
  rw [if_neg hv] at h
  have e := congrArg List.length h
  have := nDigits_pos v
  rw [List.length_append, decDigits_length v] at e
  omega

theorem Inv.done {U : Nat} {l : List UInt8} (h : Inv U 0 l) : l = decDigits U := by
  unfold Inv at h; rw [if_pos rfl] at h; exact h

/-- The array's tail, in memory. -/
structure Tail (B : Nat) (w wr : World) (p : Nat) (l : List UInt8) : Prop where
  len : p + l.length = 24
  cell : ∀ j (hj : j < l.length), wr.cell? ⟨B, p + j, none⟩ = some (.int .u8 (l[j].toNat : Int))
  free : ∀ j, j < 24 → wr.frozen? ⟨B, j, none⟩ = false
  some : ∀ j, j < 24 → ∃ x, wr.cell? ⟨B, j, none⟩ = some x
  below : Below B w wr
  size : wr.heap.size = B + 1


theorem sl_run (wr : World) (B p : Nat) (hp : p < 24) :
    Sem.run Edig.prog (Instr.sliceAt 31 (.pointer (some ⟨B, 0, none⟩)) (some (.int .i64 (p : Int))) none none) wr = .ok (.slice (some ⟨B, p, none⟩) (24 - p) (24 - p)) wr := by
  have e : Edig.prog.arrayLen 31 = 24 := by kernel_rfl
  have hu : Edig.prog.underlying 31 = some (.array (Edig.prog.arrayLen 31) (Edig.prog.elem 31)) := by kernel_rfl
  have hs : (sizeOf (Edig.prog.elem 31)).run Edig.prog wr = .ok 1 wr := by kernel_rfl
  rw [run_sliceAt_array_l wr 31 ⟨B, 0, none⟩ hu .i64 (p : Int) (by omega) (by rw [e]; omega), hs, e]
  have hn : ¬ 24 = p := by omega
  simp only [slicedAt, Int.toNat_natCast, if_neg hn, Lib.add_plain, Nat.zero_add, Nat.mul_one, Result.andThen]

theorem cv_run (wr : World) (B p : Nat) (l : List UInt8) (hl : p + l.length = 24)
    (hc : ∀ j (hj : j < l.length), wr.cell? ⟨B, p + j, none⟩ = some (.int .u8 (l[j].toNat : Int))) :
    Sem.run Edig.prog (convert 32 9 (.slice (some ⟨B, p, none⟩) (24 - p) (24 - p))) wr = .ok (.string (bs l)) wr := by
  have e : 24 - p = l.length := by omega
  rw [e]
  exact run_convert_bytes_back wr 32 9 5 ⟨B, p, none⟩ l.length l (by kernel_rfl) (by kernel_rfl) (by kernel_rfl) (fun j hj => by rw [Lib.add_plain]; exact hc j hj)

theorem Tail.put {B : Nat} {w wr : World} {q : Nat} {l : List UInt8} (h : Tail B w wr (q + 1) l) (c : UInt8) (z : Int) (hz : (c.toNat : Int) = z) :
    Tail B w (wr.setCell ⟨B, q, none⟩ (.int .u8 z)) q (c :: l) := by
  subst hz
  have hl := h.len
  obtain ⟨x, hx⟩ := h.some q (by omega)
  refine ⟨by simp; omega, ?_, ?_, ?_, h.below.setCell (Nat.le_refl _) _, ?_⟩
  · intro j hj
    cases j with
    | zero => simpa using World.cell?_setCell_same _ _ _ hx
    | succ j =>
      have hj' : j < l.length := by simpa using hj
      rw [World.cell?_setCell_other _ _ _ _ (by simp)]
      have e : q + (j + 1) = q + 1 + j := by omega
      rw [e, h.cell j hj']
      rfl
  · intro j hj
    rw [World.frozen?_setCell]
    exact h.free j hj
  · intro j hj
    by_cases e : j = q
    · subst e; exact ⟨_, World.cell?_setCell_same _ _ _ hx⟩
    · rw [World.cell?_setCell_other _ _ _ _ (by intro k; injection k with _ k2; exact e k2.symm)]
      exact h.some j hj
  · have := h.size
    simpa [World.setCell] using this

theorem Tail.start (w : World) : Tail w.heap.size w (w.alloc (.cells Lib.zeros24 31)) 24 [] := by
  refine ⟨rfl, fun j hj => by simp at hj, ?_, ?_, (Below.refl _ _).alloc (Nat.le_refl _) _, by simp⟩
  · intro j hj; exact World.frozen?_alloc_new _ _ _ _
  · intro j hj; exact ⟨_, by rw [World.cell?_alloc_new, Lib.zeros24_at j hj]⟩

set_option maxHeartbeats 400000 in
theorem itoa_pos (n : Nat) (w : World) (h0 : 1 ≤ n) (h1 : n ≤ 9223372036854775807) (hd : (decDigits n).length ≤ 21) :
    Calls Edig.prog 7 #[.int .i64 (n : Int)] w fun e w' => e = .returned (.string (bs (decDigits n))) ∧ Below w.heap.size w w' := by
  go_enter Edig.func7, Edig.ntmps7
  go_wp2
  go_loopw [3, 6] (fun u i wr => ∃ (v p : Nat) (l : List UInt8), u = .int .u64 (v : Int) ∧ i = .int .i64 (p : Int) ∧ v ≤ n ∧ Inv n v l ∧ Tail w.heap.size w wr p l) (fun u _ _ => (intOf u).toNat)
  case atStart => exact ⟨n, 24, [], rfl, rfl, Nat.le_refl _, Inv.start n h0, Tail.start w⟩
  case round =>
    obtain ⟨v, p, l, rfl, rfl, hvn, hinv, ht⟩ := hrel
    by_cases hv : v = 0
    · subst hv
      have hlen := ht.len
      have hb := ht.below
      have hl := hinv.done
      subst hl
      have hpos := nDigits_pos n
      rw [← decDigits_length] at hpos
      have hs := sl_run wr w.heap.size p (by omega)
      have hc := cv_run wr w.heap.size p (decDigits n) hlen ht.cell
      clear ht hinv hlen
      go_wp2
      go_ret
      exact ⟨rfl, hb⟩
    · have hl := hinv.len hv hd
      have hlen := ht.len
      obtain ⟨q, rfl⟩ : ∃ q, p = q + 1 := ⟨p - 1, by omega⟩
      have HI := hinv.step hv
      have hv1 : 1 ≤ v := by omega
      obtain ⟨x, hx⟩ := ht.some q (by omega)
      have HT := ht.put (UInt8.ofNat (48 + v % 10)) (48 + (v : Int) % 10) (by rw [u8_small (v % 10) (by omega)]; omega)
      have hf := ht.free q (by omega)
      have HH : Hid (Inv n (v / 10) (UInt8.ofNat (48 + v % 10) :: l) ∧ Tail w.heap.size w (wr.setCell ⟨w.heap.size, q, none⟩ (.int .u8 (48 + (v : Int) % 10))) q (UInt8.ofNat (48 + v % 10) :: l)) := ⟨HI, HT⟩
      have hq : q < 24 := by omega
      clear HI HT ht hinv hv hl hlen
      go_wp2
      go_roundw
      case rel => exact ⟨v / 10, q, _, by go_num, by go_num, by omega, HH.out.1, HH.out.2⟩
      case measure => simp [intOf]; omega

set_option maxHeartbeats 400000 in
theorem itoa_neg (n : Nat) (w : World) (h0 : 1 ≤ n) (h1 : n ≤ 9223372036854775808) (hd : (decDigits n).length ≤ 21) :
    Calls Edig.prog 7 #[.int .i64 (-(n : Int))] w fun e w' => e = .returned (.string (bs (45 :: decDigits n))) ∧ Below w.heap.size w w' := by
  have hx := u64_com n h0 h1
  have hn : -(n : Int) < 0 := by omega
  go_enter Edig.func7, Edig.ntmps7
  go_wp2
  clear hx
  go_loopw [3, 6] (fun u i wr => ∃ (v p : Nat) (l : List UInt8), u = .int .u64 (v : Int) ∧ i = .int .i64 (p : Int) ∧ v ≤ n ∧ Inv n v l ∧ Tail w.heap.size w wr p l) (fun u _ _ => (intOf u).toNat)
  case atStart => exact ⟨n, 24, [], rfl, rfl, Nat.le_refl _, Inv.start n h0, Tail.start w⟩
  case round =>
    obtain ⟨v, p, l, rfl, rfl, hvn, hinv, ht⟩ := hrel
    by_cases hv : v = 0
    · subst hv
      have hl := hinv.done
      subst hl
      have hlen := ht.len
      obtain ⟨q, rfl⟩ : ∃ q, p = q + 1 := ⟨p - 1, by omega⟩
      obtain ⟨x, hx⟩ := ht.some q (by omega)
      have hf := ht.free q (by omega)
      have HT := ht.put 45 45 rfl
      have hb := HT.below
      have hs := sl_run (wr.setCell ⟨w.heap.size, q, none⟩ (.int .u8 45)) w.heap.size q (by omega)
      have hc := cv_run (wr.setCell ⟨w.heap.size, q, none⟩ (.int .u8 45)) w.heap.size q (45 :: decDigits n) HT.len HT.cell
      have hq : q < 24 := by omega
      clear ht HT hinv hlen
      go_wp2
      go_ret
      exact ⟨rfl, hb⟩
    · have hl := hinv.len hv hd
      have hlen := ht.len
      obtain ⟨q, rfl⟩ : ∃ q, p = q + 1 := ⟨p - 1, by omega⟩
      have HI := hinv.step hv
      have hv1 : 1 ≤ v := by omega
      obtain ⟨x, hx⟩ := ht.some q (by omega)
      have HT := ht.put (UInt8.ofNat (48 + v % 10)) (48 + (v : Int) % 10) (by rw [u8_small (v % 10) (by omega)]; omega)
      have hf := ht.free q (by omega)
      have HH : Hid (Inv n (v / 10) (UInt8.ofNat (48 + v % 10) :: l) ∧ Tail w.heap.size w (wr.setCell ⟨w.heap.size, q, none⟩ (.int .u8 (48 + (v : Int) % 10))) q (UInt8.ofNat (48 + v % 10) :: l)) := ⟨HI, HT⟩
      have hq : q < 24 := by omega
      clear HI HT ht hinv hv hl hlen
      go_wp2
      go_roundw
      case rel => exact ⟨v / 10, q, _, by go_num, by go_num, by omega, HH.out.1, HH.out.2⟩
      case measure => simp [intOf]; omega

theorem itoa_zero (w : World) : Calls Edig.prog 7 #[.int .i64 0] w fun e w' => e = .returned (.string (bs [48])) ∧ Below w.heap.size w w' := by
  go_enter Edig.func7, Edig.ntmps7
  go_wp2
  go_ret
  exact ⟨rfl, Below.refl _ _⟩

/-- zzItoa writes the decimal numeral, for every int. -/
theorem itoa_any (n : Int) (w : World) (wn : (Lit.int .i64 n).wf = true) :
    Calls Edig.prog 7 #[.int .i64 n] w fun e w' => e = .returned (.string (bs (Lib.itoa n))) ∧ Below w.heap.size w w' := by
  have hd := FmtText.itoa_length_le wn
  have hb : -9223372036854775808 ≤ n ∧ n ≤ 9223372036854775807 := by
    have := wn
    simp [Lit.wf, IntKind.min, IntKind.max, IntKind.signed, IntKind.bits] at this
    omega
  unfold Lib.itoa at hd ⊢
  by_cases h : n < 0
  · rw [if_pos h] at hd ⊢
    have e : n = -(n.natAbs : Int) := by omega
    have k := itoa_neg n.natAbs w (by omega) (by omega) (by simp at hd; omega)
    rw [← e] at k
    exact k
  · rw [if_neg h] at hd ⊢
    by_cases h0 : n = 0
    · subst h0
      have e : decDigits (Int.toNat 0) = [48] := decDigits_one (by decide)
      rw [e]
      exact itoa_zero w
    · have e : n = (n.toNat : Int) := by omega
      have k := itoa_pos n.toNat w (by omega) (by omega) hd
      rw [← e] at k
      exact k

end Go.Proofs.YoediwFmt
