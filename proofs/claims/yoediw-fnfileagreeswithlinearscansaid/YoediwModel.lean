/-
  The script's model: plain functions; zzScriptModel (function 16).
-/
import Derived.Test.YoediwPtr
namespace Go.Proofs.Yoediw
open Go.RowKit

/-- The base that is asked for at call i. -/
def raw (m : Nat) (bz : Nat → Int) (i : Nat) : Int := if i < m then bz i else -1
/-- The set's base ahead of call i, in plain integers. -/
def nxt (m : Nat) (bz sz : Nat → Int) : Nat → Int
  | 0 => 1
  | i + 1 => (if raw m bz i < 0 then nxt m bz sz i else raw m bz i) + sz i + 1
/-- The base that call i hands out. -/
def mb (m : Nat) (bz sz : Nat → Int) (i : Nat) : Int := if raw m bz i < 0 then nxt m bz sz i else raw m bz i
theorem nxt_succ (m : Nat) (bz sz : Nat → Int) (i : Nat) : nxt m bz sz (i + 1) = mb m bz sz i + sz i + 1 := rfl

/-- No call below k is refused. -/
def Ok (m : Nat) (bz sz : Nat → Int) (k : Nat) : Prop := ∀ i, i < k → 0 ≤ sz i ∧ nxt m bz sz i ≤ mb m bz sz i ∧ mb m bz sz i ≤ 9223372036854775807 - sz i - 1

theorem Ok.zero (m : Nat) (bz sz : Nat → Int) : Ok m bz sz 0 := fun i hi => absurd hi (Nat.not_lt_zero i)
theorem Ok.succ {m : Nat} {bz sz : Nat → Int} {k : Nat} (h : Ok m bz sz k) (h0 : 0 ≤ sz k) (h1 : nxt m bz sz k ≤ mb m bz sz k) (h2 : mb m bz sz k ≤ 9223372036854775807 - sz k - 1) : Ok m bz sz (k + 1) := by
  intro i hi
  by_cases e : i = k
  · subst e; exact ⟨h0, h1, h2⟩
  · exact h i (by omega)
theorem Ok.le {m : Nat} {bz sz : Nat → Int} {k j : Nat} (h : Ok m bz sz k) (hj : j ≤ k) : Ok m bz sz j := fun i hi => h i (by omega)

theorem Ok.bounds {m : Nat} {bz sz : Nat → Int} : ∀ {k : Nat}, Ok m bz sz k → 1 ≤ nxt m bz sz k ∧ nxt m bz sz k ≤ 9223372036854775807
  | 0, _ => by simp [nxt]
  | k + 1, h => by
    have hb := (h.le (Nat.le_succ k)).bounds
    obtain ⟨h0, h1, h2⟩ := h k (Nat.lt_succ_self k)
    rw [nxt_succ]
    omega

set_option maxHeartbeats 400000 in
theorem model_any (a : Option Addr) (m ca : Nat) (b : Option Addr) (n cb : Nat) (bz sz : Nat → Int) (w : World) (hm : m ≤ 1048576) (hn : n ≤ 1048576) (ha : IntArg w a m ca bz) (hb : IntArg w b n cb sz) :
    Calls Edig.prog 16 #[.slice a m ca, .slice b n cb] w fun e w' => (e = .returned (.tuple #[.slice none 0 0, .bool false]) ∧ Below w.heap.size w w') ∨
      (e = .returned (.tuple #[.slice (some ⟨w.heap.size, 0, none⟩) n n, .bool true]) ∧ Ok m bz sz n ∧ Fill w.heap.size n n (fun j => .int .i64 (mb m bz sz j)) w' ∧ Below w.heap.size w w' ∧ w'.heap.size = w.heap.size + 1) := by
  have hmk := mk22 n hn
  have HA := hideIt ha
  have HB := hideIt hb
  clear ha hb
  go_enter Edig.func16, Edig.ntmps16
  go_wp2
  go_loopw [8, 9] (fun x i wr => ∃ k : Nat, k ≤ n ∧ i = .int .i64 (k : Int) ∧ x = .int .i64 (nxt m bz sz k) ∧ Ok m bz sz k ∧ Fill w.heap.size n k (fun j => .int .i64 (mb m bz sz j)) wr ∧ Below w.heap.size w wr ∧ wr.heap.size = w.heap.size + 1) (fun _ i _ => n - (intOf i).toNat)
  case atStart => exact ⟨0, Nat.zero_le _, rfl, rfl, Ok.zero _ _ _, Fill.start _ _ _ _ _, (Below.refl _ _).alloc (Nat.le_refl _) _, by simp⟩
  case round =>
    obtain ⟨k, hk, rfl, rfl, hok, hf, hbel, hs⟩ := hrel
    clear hmk
    have hxb := hok.bounds
    have HK := hideIt hok
    have HF := hideIt hf
    have HL := hideIt hbel
    have HS := hideIt hs
    clear hok hf hbel hs
    by_cases hlt : k < n
    · obtain ⟨b1, off, e, hc⟩ := HB.out.row k hlt
      subst e
      have hc' : wr.cell? ⟨b1, off + k, none⟩ = some (.int .i64 (sz k)) := by rw [HL.out.cell (lt_of_cell hc)]; exact hc
      obtain ⟨x, hx⟩ := HF.out.has k hlt
      have hz := HF.out.free k hlt
      have s1 := HB.out.lo k hlt
      have s2 := HB.out.hi k hlt
      clear hc
      by_cases hz0 : sz k < 0
      · go_wp2
        go_ret2
        exact Or.inl ⟨rfl, HL.out⟩
      · have hz0' : 0 ≤ sz k := by omega
        by_cases hkm : k < m
        · obtain ⟨b2, off2, e, hd⟩ := HA.out.row k hkm
          subst e
          have hd' : wr.cell? ⟨b2, off2 + k, none⟩ = some (.int .i64 (bz k)) := by rw [HL.out.cell (lt_of_cell hd)]; exact hd
          have s3 := HA.out.lo k hkm
          have s4 := HA.out.hi k hkm
          clear hd
          by_cases hb0 : bz k < 0
          · by_cases hx2 : nxt m bz sz k ≤ 9223372036854775807 - sz k - 1
            · skip
              have em : mb m bz sz k = nxt m bz sz k := by unfold mb raw; rw [if_pos hkm, if_pos hb0]
              have HC := hideIt (And.intro (HK.out.succ hz0' (by omega) (by omega)) (And.intro (em ▸ HF.out.put hlt) (And.intro (HL.out.setCell (p := ⟨w.heap.size, k, none⟩) (Nat.le_refl _) (.int .i64 (nxt m bz sz k))) (show (wr.setCell ⟨w.heap.size, k, none⟩ (.int .i64 (nxt m bz sz k))).heap.size = w.heap.size + 1 by simpa using HS.out))))
              have HN := hideIt (show nxt m bz sz (k + 1) = nxt m bz sz k + sz k + 1 by rw [nxt_succ, em])
              clear em
              go_wp2
              go_roundw
              case rel => exact ⟨k + 1, by omega, by go_num, by rw [HN.out], HC.out.1, HC.out.2.1, HC.out.2.2.1, HC.out.2.2.2⟩
              case measure => simp [intOf]; omega
            · skip
              go_wp2
              go_ret2
              exact Or.inl ⟨rfl, HL.out⟩
          · have hb0' : 0 ≤ bz k := by omega
            by_cases hlo : nxt m bz sz k ≤ bz k
            · by_cases hx2 : bz k ≤ 9223372036854775807 - sz k - 1
              · skip
                have em : mb m bz sz k = bz k := by unfold mb raw; rw [if_pos hkm, if_neg (by omega)]
                have HC := hideIt (And.intro (HK.out.succ hz0' (by omega) (by omega)) (And.intro (em ▸ HF.out.put hlt) (And.intro (HL.out.setCell (p := ⟨w.heap.size, k, none⟩) (Nat.le_refl _) (.int .i64 (bz k))) (show (wr.setCell ⟨w.heap.size, k, none⟩ (.int .i64 (bz k))).heap.size = w.heap.size + 1 by simpa using HS.out))))
                have HN := hideIt (show nxt m bz sz (k + 1) = bz k + sz k + 1 by rw [nxt_succ, em])
                clear em
                go_wp2
                go_roundw
                case rel => exact ⟨k + 1, by omega, by go_num, by rw [HN.out], HC.out.1, HC.out.2.1, HC.out.2.2.1, HC.out.2.2.2⟩
                case measure => simp [intOf]; omega
              · skip
                go_wp2
                go_ret2
                exact Or.inl ⟨rfl, HL.out⟩
            · skip
              go_wp2
              go_ret2
              exact Or.inl ⟨rfl, HL.out⟩
        · by_cases hx2 : nxt m bz sz k ≤ 9223372036854775807 - sz k - 1
          · skip
            have em : mb m bz sz k = nxt m bz sz k := by unfold mb raw; rw [if_neg hkm, if_pos (by decide)]
            have HC := hideIt (And.intro (HK.out.succ hz0' (by omega) (by omega)) (And.intro (em ▸ HF.out.put hlt) (And.intro (HL.out.setCell (p := ⟨w.heap.size, k, none⟩) (Nat.le_refl _) (.int .i64 (nxt m bz sz k))) (show (wr.setCell ⟨w.heap.size, k, none⟩ (.int .i64 (nxt m bz sz k))).heap.size = w.heap.size + 1 by simpa using HS.out))))
            have HN := hideIt (show nxt m bz sz (k + 1) = nxt m bz sz k + sz k + 1 by rw [nxt_succ, em])
            clear em
            go_wp2
            go_roundw
            case rel => exact ⟨k + 1, by omega, by go_num, by rw [HN.out], HC.out.1, HC.out.2.1, HC.out.2.2.1, HC.out.2.2.2⟩
            case measure => simp [intOf]; omega
          · skip
            go_wp2
            go_ret2
            exact Or.inl ⟨rfl, HL.out⟩
    · have e : k = n := by omega
      subst e
      have HR := hideIt (And.intro HK.out (And.intro HF.out (And.intro HL.out HS.out)))
      clear HK HF HL HS
      go_wp2
      go_ret2
      exact Or.inr ⟨rfl, HR.out⟩

end Go.Proofs.Yoediw
