/-
  The plain law of the text: no Go in sight.
-/
import Derived.Test.YoediwFmtTold
namespace Go.Proofs.YoediwFmt
open Go.Lib

/-- The number that a row of decimal digits says. -/
def valOf (l : List UInt8) : Nat := l.foldl (fun a d => a * 10 + (d.toNat - 48)) 0

theorem u8_small (k : Nat) (h : k < 10) : (UInt8.ofNat (48 + k)).toNat = 48 + k := by
  rw [UInt8.toNat_ofNat']; omega

theorem valOf_dec (u : Nat) : valOf (decDigits u) = u := by
  induction u using Nat.strongRecOn with
  | _ u ih =>
    by_cases h : u < 10
    · rw [decDigits, dif_pos h]
      simp only [valOf, List.foldl_cons, List.foldl_nil]
      rw [u8_small u h]; omega
    · rw [decDigits, dif_neg h]
      have e := ih (u / 10) (by omega)
      unfold valOf at e ⊢
      rw [List.foldl_append, e]
      simp only [List.foldl_cons, List.foldl_nil]
      rw [u8_small (u % 10) (by omega)]; omega

theorem dec_inj {a b : Nat} (h : decDigits a = decDigits b) : a = b := by
  rw [← valOf_dec a, ← valOf_dec b, h]

theorem dec_ge (u : Nat) : ∀ c ∈ decDigits u, 48 ≤ c.toNat := by
  induction u using Nat.strongRecOn with
  | _ u ih =>
    intro c hc
    by_cases h : u < 10
    · rw [decDigits, dif_pos h] at hc
      rw [List.mem_singleton.1 hc, u8_small u h]; omega
    · rw [decDigits, dif_neg h] at hc
      rcases List.mem_append.1 hc with hc | hc
      · exact ih (u / 10) (by omega) c hc
      · rw [List.mem_singleton.1 hc, u8_small (u % 10) (by omega)]; omega

theorem itoa_inj {a b : Int} (h : itoa a = itoa b) : a = b := by
  unfold itoa at h
  by_cases ha : a < 0 <;> by_cases hb : b < 0
  · rw [if_pos ha, if_pos hb] at h
    have := dec_inj (List.cons.inj h).2
    omega
  · rw [if_pos ha, if_neg hb] at h
    have := dec_ge b.toNat 45 (by rw [← h]; simp)
    simp at this
  · rw [if_neg ha, if_pos hb] at h
    have := dec_ge a.toNat 45 (by rw [h]; simp)
    simp at this
  · rw [if_neg ha, if_neg hb] at h
    have := dec_inj h
    omega

theorem posText_ne (fn : List UInt8) (line col : Int) : posText fn line col ≠ [] := by
  unfold posText
  have := itoa_ne line
  split
  · simp [this]
  · split <;> simp_all

theorem posText_opens (fn : List UInt8) (line col : Int) : ∃ r, posText fn line col = fn ++ r := by
  unfold posText
  by_cases hf : fn = []
  · subst hf; exact ⟨_, rfl⟩
  · by_cases hl : 0 < line
    · rw [if_pos hl, if_neg hf, List.append_assoc, List.append_assoc]; exact ⟨_, rfl⟩
    · rw [if_neg hl, if_neg hf]; exact ⟨[], by simp⟩

theorem posText_len (fn : List UInt8) (line col : Int) (wl : (Lit.int .i64 line).wf = true) (wc : (Lit.int .i64 col).wf = true) : (posText fn line col).length ≤ fn.length + 50 := by
  have l1 := Go.Extern.FmtText.itoa_length_le wl
  have l2 := Go.Extern.FmtText.itoa_length_le wc
  unfold posText
  split <;> split <;> (try split) <;> simp <;> omega

theorem posText_noline (fn : List UInt8) (line c1 c2 : Int) (h : line ≤ 0) : posText fn line c1 = posText fn line c2 := by
  have hn : ¬ 0 < line := by omega
  unfold posText
  rw [if_neg hn, if_neg hn]

theorem posText_col {fn : List UInt8} {line c1 c2 : Int} (h : 0 < line) (e : posText fn line c1 = posText fn line c2) : c1 = c2 := by
  unfold posText at e
  rw [if_pos h, if_pos h] at e
  have e2 := List.append_cancel_left e
  by_cases h1 : c1 = 0 <;> by_cases h2 : c2 = 0
  · omega
  · rw [if_pos h1, if_neg h2] at e2; cases e2
  · rw [if_neg h1, if_pos h2] at e2; cases e2
  · rw [if_neg h1, if_neg h2] at e2
    exact itoa_inj (List.cons.inj e2).2

end Go.Proofs.YoediwFmt
