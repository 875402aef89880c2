/-
  The script's plain law; zzRunScript (function 19).
-/
import Derived.Test.YoediwBytes
namespace Go.Proofs.Yoediw
open Go.RowKit

/-- The name at call i. -/
def nmf (N : Nat) (z : Nat → ByteArray) (i : Nat) : ByteArray := if i < N then z i else ⟨#[]⟩

theorem Ok.up {m : Nat} {bz sz : Nat → Int} {n : Nat} (h : Ok m bz sz n) : ∀ {i j : Nat}, i ≤ j → j ≤ n → nxt m bz sz i ≤ nxt m bz sz j := by
  intro i j hij
  induction j with
  | zero => intro _; have : i = 0 := by omega
            subst this; exact Int.le_refl _
  | succ j ih =>
    intro hj
    rcases Nat.lt_or_ge j i with k | k
    · have : i = j + 1 := by omega
      subst this; exact Int.le_refl _
    · have h1 := ih k (by omega)
      obtain ⟨a, b, _⟩ := h j (by omega)
      rw [nxt_succ]; omega

theorem Ok.below {m : Nat} {bz sz : Nat → Int} {n : Nat} (h : Ok m bz sz n) {i j : Nat} (hij : i < j) (hj : j ≤ n) : mb m bz sz i + sz i < nxt m bz sz j := by
  have h1 := h.up (i := i + 1) (j := j) hij hj
  rw [nxt_succ] at h1
  omega

theorem Ok.good {m : Nat} {bz sz : Nat → Int} {n : Nat} (h : Ok m bz sz n) (hn : n ≤ 1048576) : Good n (mb m bz sz) sz := by
  refine ⟨⟨fun j hj => (h j hj).1, fun i j hij hj => ?_⟩, hn, fun j hj => ?_⟩
  · have h1 := h.below hij (Nat.le_of_lt hj)
    have h2 := (h j hj).2.1
    omega
  · have h1 := ((h.le (Nat.le_of_lt hj))).bounds
    obtain ⟨a, b, c⟩ := h j hj
    omega

/-- AddFile at call k of the script. -/
theorem add_script {W : World} {R s : Nat} {v : Value} {k : Nat} {q l : Nat → Nat} {N : Nat} {z : Nat → ByteArray} {m : Nat} {bz sz : Nat → Int} {last : Option Nat} {n : Nat} (h : HS W R s v k q l (nmf N z) (mb m bz sz) sz last (nxt m bz sz k))
    (hok : Ok m bz sz n) (hk : k < n) (hn : n ≤ 1048576) {nmv : ByteArray} {bv : Int} (e1 : nmf N z k = nmv) (e2 : raw m bz k = bv) :
    Calls Edig.prog 13 #[.pointer (some ⟨s, 0, none⟩), .string nmv, .int .i64 bv, .int .i64 (sz k)] W fun e W' => ∃ v' Q L, e = .returned (.pointer (some ⟨Q, 0, none⟩)) ∧ HS W' R s v' (k + 1) (upd q k Q) (upd l k L) (nmf N z) (mb m bz sz) sz (some k) (nxt m bz sz (k + 1)) ∧ KpR R s W W' := by
  obtain ⟨a, b, c⟩ := hok k hk
  have hb := (hok.le (Nat.le_of_lt hk)).bounds
  have hc := add_any W R s v k q l (nmf N z) (mb m bz sz) sz last (nxt m bz sz k) h (raw m bz k) rfl b hb.1 a (by omega) (by omega)
  rw [e1, e2] at hc
  refine hc.mono ?_
  rintro e W' ⟨v', Q, L, rfl, hs, hkp⟩
  refine ⟨v', Q, L, rfl, ?_, hkp⟩
  have e : mb m bz sz k + (sz k + 1) = nxt m bz sz (k + 1) := by rw [nxt_succ]; omega
  rw [e] at hs
  exact hs

/-- The script's state behind k calls: set s, files array F. -/
structure RS (w wr : World) (R s F n k : Nat) (q : Nat → Nat) (N : Nat) (z : Nat → ByteArray) (m : Nat) (bz sz : Nat → Int) : Prop where
  hs : ∃ v l last, HS wr R s v k q l (nmf N z) (mb m bz sz) sz last (nxt m bz sz k)
  fill : Fill F n k (fun j => .pointer (some ⟨q j, 0, none⟩)) wr
  bel : Below w.heap.size w wr

/-- What a call and the store of its file make of it. -/
theorem RS.step {w wr w1 : World} {R s F n k : Nat} {q : Nat → Nat} {N : Nat} {z : Nat → ByteArray} {m : Nat} {bz sz : Nat → Int} (h : RS w wr R s F n k q N z m bz sz) (hk : k < n) (hsw : w.heap.size ≤ s) (hFw : w.heap.size ≤ F) (hF : F < R) (hFs : F ≠ s)
    {v' : Value} {Q L : Nat} {l : Nat → Nat} {last : Option Nat} (hs : HS w1 R s v' (k + 1) (upd q k Q) (upd l k L) (nmf N z) (mb m bz sz) sz last (nxt m bz sz (k + 1))) (hkp : KpR R s wr w1) :
    RS w (w1.setCell ⟨F, k, none⟩ (.pointer (some ⟨Q, 0, none⟩))) R s F n (k + 1) (upd q k Q) N z m bz sz ∧ (∃ x, w1.cell? ⟨F, k, none⟩ = some x) ∧ w1.frozen? ⟨F, k, none⟩ = false := by
  have f1 : Fill F n k (fun j => .pointer (some ⟨q j, 0, none⟩)) w1 := h.fill.keep (hkp.block F hF hFs)
  have f2 : Fill F n k (fun j => .pointer (some ⟨upd q k Q j, 0, none⟩)) w1 := ⟨f1.free, f1.has, fun j hj => by rw [upd_lt q Q hj]; exact f1.done j hj⟩
  have f3 := f2.put hk
  simp only [upd_at] at f3
  refine ⟨⟨⟨_, _, _, hs.setCell hF hFs k _⟩, f3, ?_⟩, f1.has k hk, f1.free k hk⟩
  exact (h.bel.trans (hkp.below hsw (by omega))).setCell hFw _

theorem run_start (w : World) (n N : Nat) (z : Nat → ByteArray) (m : Nat) (bz sz : Nat → Int) :
    RS w ((w.alloc (.cells #[.int .i64 1, .slice none 0 0, .pointer none] 30)).alloc (.cells (zeroRow (.pointer none) n) 28)) (w.heap.size + 2) w.heap.size (w.heap.size + 1) n 0 (fun _ => 0) N z m bz sz := by
  refine ⟨⟨.slice none 0 0, fun _ => 0, none, HS.new ?_ (by omega) (by simp) _ _ _ _ _⟩, ?_, ((Below.refl _ w).alloc (Nat.le_refl _) _).alloc (by simp) _⟩
  · rw [Below.heap_alloc _ _ _ (by simp)]
    exact heap_new w _
  · have := Fill.start (w.alloc (.cells #[.int .i64 1, .slice none 0 0, .pointer none] 30)) (.pointer none) n 28 (fun _ => .pointer (some ⟨0, 0, none⟩))
    simpa using this

set_option maxHeartbeats 400000 in
theorem run_any (a b c : Option Addr) (N m n ca cb cc : Nat) (z : Nat → ByteArray) (bz sz : Nat → Int) (w : World) (hN : N ≤ 1048576) (hm : m ≤ 1048576) (hn : n ≤ 1048576)
    (ra : RowV w a N (fun j => .string (z j))) (rb : RowV w b m (fun j => .int .i64 (bz j))) (rc : RowV w c n (fun j => .int .i64 (sz j))) (hok : Ok m bz sz n) :
    Calls Edig.prog 19 #[.slice a N ca, .slice b m cb, .slice c n cc] w fun e w' => ∃ q, e = .returned (.tuple #[.pointer (some ⟨w.heap.size, 0, none⟩), .slice (some ⟨w.heap.size + 1, 0, none⟩) n n]) ∧ RS w w' (w.heap.size + 2) w.heap.size (w.heap.size + 1) n n q N z m bz sz := by
  have hmk := mk27 n hn
  have HA := hideIt ra
  have HB := hideIt rb
  have HC := hideIt rc
  have HO := hideIt hok
  clear ra rb rc hok
  go_enter Edig.func19, Edig.ntmps19
  go_wp2_with (go_at_call 10; refine (new_any _).mono ?_; rintro e w2 ⟨rfl, rfl⟩)
  clear hmk
  go_loopw [10] (fun i wr => ∃ (k : Nat) (q : Nat → Nat), k ≤ n ∧ i = .int .i64 (k : Int) ∧ RS w wr (w.heap.size + 2) w.heap.size (w.heap.size + 1) n k q N z m bz sz) (fun i _ => n - (intOf i).toNat)
  case atStart => exact ⟨0, _, Nat.zero_le _, rfl, run_start w n N z m bz sz⟩
  case round =>
    obtain ⟨k, q, hk, rfl, hr⟩ := hrel
    have HR := hideIt hr
    clear hr
    by_cases hlt : k < n
    · obtain ⟨b3, off3, e3, hc3⟩ := HC.out k hlt
      subst e3
      have c3 : wr.cell? ⟨b3, off3 + k, none⟩ = some (.int .i64 (sz k)) := by rw [HR.out.bel.cell (lt_of_cell hc3)]; exact hc3
      clear hc3
      by_cases hkN : k < N
      · obtain ⟨b1, off1, e1, hc1⟩ := HA.out k hkN
        subst e1
        have c1 : wr.cell? ⟨b1, off1 + k, none⟩ = some (.string (z k)) := by rw [HR.out.bel.cell (lt_of_cell hc1)]; exact hc1
        clear hc1
        by_cases hkm : k < m
        · obtain ⟨b2, off2, e2, hc2⟩ := HB.out k hkm
          subst e2
          have c2 : wr.cell? ⟨b2, off2 + k, none⟩ = some (.int .i64 (bz k)) := by rw [HR.out.bel.cell (lt_of_cell hc2)]; exact hc2
          clear hc2
          go_wp2_with fail
          obtain ⟨v, l, last, hh⟩ := HR.out.hs
          refine (add_script hh HO.out hlt hn (nmv := z k) (bv := bz k) (if_pos hkN) (if_pos hkm)).mono ?_
          rintro e w1 ⟨v', Q, L, rfl, hs', hkp⟩
          obtain ⟨hr', ⟨x, hx⟩, hfr⟩ := HR.out.step hlt (Nat.le_refl _) (by omega) (by omega) (by omega) hs' hkp
          have HR' := hideIt hr'
          clear hr' hs' hkp hh HR
          go_wp2
          go_roundw
          case rel => exact ⟨k + 1, _, by omega, by go_num, HR'.out⟩
          case measure => simp [intOf]; omega
        · skip
          go_wp2_with fail
          obtain ⟨v, l, last, hh⟩ := HR.out.hs
          refine (add_script hh HO.out hlt hn (nmv := z k) (bv := -1) (if_pos hkN) (if_neg hkm)).mono ?_
          rintro e w1 ⟨v', Q, L, rfl, hs', hkp⟩
          obtain ⟨hr', ⟨x, hx⟩, hfr⟩ := HR.out.step hlt (Nat.le_refl _) (by omega) (by omega) (by omega) hs' hkp
          have HR' := hideIt hr'
          clear hr' hs' hkp hh HR
          go_wp2
          go_roundw
          case rel => exact ⟨k + 1, _, by omega, by go_num, HR'.out⟩
          case measure => simp [intOf]; omega
      · by_cases hkm : k < m
        · obtain ⟨b2, off2, e2, hc2⟩ := HB.out k hkm
          subst e2
          have c2 : wr.cell? ⟨b2, off2 + k, none⟩ = some (.int .i64 (bz k)) := by rw [HR.out.bel.cell (lt_of_cell hc2)]; exact hc2
          clear hc2
          go_wp2_with fail
          obtain ⟨v, l, last, hh⟩ := HR.out.hs
          refine (add_script hh HO.out hlt hn (nmv := ⟨#[]⟩) (bv := bz k) (if_neg hkN) (if_pos hkm)).mono ?_
          rintro e w1 ⟨v', Q, L, rfl, hs', hkp⟩
          obtain ⟨hr', ⟨x, hx⟩, hfr⟩ := HR.out.step hlt (Nat.le_refl _) (by omega) (by omega) (by omega) hs' hkp
          have HR' := hideIt hr'
          clear hr' hs' hkp hh HR
          go_wp2
          go_roundw
          case rel => exact ⟨k + 1, _, by omega, by go_num, HR'.out⟩
          case measure => simp [intOf]; omega
        · skip
          go_wp2_with fail
          obtain ⟨v, l, last, hh⟩ := HR.out.hs
          refine (add_script hh HO.out hlt hn (nmv := ⟨#[]⟩) (bv := -1) (if_neg hkN) (if_neg hkm)).mono ?_
          rintro e w1 ⟨v', Q, L, rfl, hs', hkp⟩
          obtain ⟨hr', ⟨x, hx⟩, hfr⟩ := HR.out.step hlt (Nat.le_refl _) (by omega) (by omega) (by omega) hs' hkp
          have HR' := hideIt hr'
          clear hr' hs' hkp hh HR
          go_wp2
          go_roundw
          case rel => exact ⟨k + 1, _, by omega, by go_num, HR'.out⟩
          case measure => simp [intOf]; omega
    · have e : k = n := by omega
      subst e
      go_wp2
      go_ret2
      exact ⟨q, rfl, HR.out⟩

end Go.Proofs.Yoediw
