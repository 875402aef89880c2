/-
  The plain law of the look-up: no Go in sight.
-/
import Derived.Test.YoediwSearch
namespace Go.Proofs.Yoediw

/-- File i holds position p. -/
def In (base size : Nat → Int) (p : Int) (i : Nat) : Prop := base i ≤ p ∧ p ≤ base i + size i

/-- The ranges are disjoint and go up. -/
def Ord (n : Nat) (base size : Nat → Int) : Prop := (∀ j, j < n → 0 ≤ size j) ∧ ∀ i j, i < j → j < n → base i + size i < base j

/-- The linear look-up (from the last file down). -/
def look (base size : Nat → Int) (p : Int) : Nat → Option Nat
  | 0 => none
  | n + 1 => if base n ≤ p ∧ p ≤ base n + size n then some n else look base size p n

theorem look_some {base size : Nat → Int} {p : Int} : ∀ {n i : Nat}, look base size p n = some i → i < n ∧ In base size p i
  | 0, i, h => by cases h
  | n + 1, i, h => by
    unfold look at h
    split at h
    · rename_i hc
      injection h with h
      subst h
      exact ⟨Nat.lt_succ_self _, hc⟩
    · have := look_some h
      exact ⟨by omega, this.2⟩

theorem look_none {base size : Nat → Int} {p : Int} : ∀ {n : Nat}, look base size p n = none → ∀ i, i < n → ¬ In base size p i
  | 0, _, i, hi => absurd hi (Nat.not_lt_zero i)
  | n + 1, h, i, hi => by
    unfold look at h
    split at h
    · cases h
    · rename_i hc
      by_cases e : i = n
      · subst e; exact hc
      · exact look_none h i (by omega)

theorem Ord.one {n : Nat} {base size : Nat → Int} (h : Ord n base size) {p : Int} {i j : Nat} (hi : i < n) (hj : j < n) (pi : In base size p i) (pj : In base size p j) : i = j := by
  rcases Nat.lt_trichotomy i j with k | k | k
  · have := h.2 i j k hj; have := pi.2; have := pj.1; omega
  · exact k
  · have := h.2 j i k hi; have := pj.2; have := pi.1; omega

theorem Ord.look {n : Nat} {base size : Nat → Int} (h : Ord n base size) {p : Int} {i : Nat} (hi : i < n) (pi : In base size p i) : look base size p n = some i := by
  cases e : Yoediw.look base size p n with
  | none => exact absurd pi (look_none e i hi)
  | some j => rw [h.one hi (look_some e).1 pi (look_some e).2]

theorem look_no {n : Nat} {base size : Nat → Int} {p : Int} (h : ∀ i, i < n → ¬ In base size p i) : look base size p n = none := by
  cases e : look base size p n with
  | none => rfl
  | some j => exact absurd (look_some e).2 (h j (look_some e).1)

/-- The cut at 0: no file. -/
theorem look_cut0 {n : Nat} {base size : Nat → Int} {p : Int} (c : Cut (fun t => decide (p < base t)) n 0) : look base size p n = none :=
  look_no fun i hi hin => by
    have := c.2.2 i (Nat.zero_le _) hi
    simp at this
    have := hin.1
    omega

/-- The cut behind m: file m or none. -/
theorem look_cut {n m : Nat} {base size : Nat → Int} {p : Int} (h : Ord n base size) (c : Cut (fun t => decide (p < base t)) n (m + 1)) :
    base m ≤ p ∧ look base size p n = if p ≤ base m + size m then some m else none := by
  have hm : m < n := c.1
  have h1 := c.2.1 m (Nat.lt_succ_self _)
  simp at h1
  refine ⟨h1, ?_⟩
  split
  · rename_i h2
    exact h.look hm ⟨h1, h2⟩
  · rename_i h2
    refine look_no fun i hi hin => ?_
    rcases Nat.lt_trichotomy i m with k | k | k
    · have := h.2 i m k hm; have := hin.2; omega
    · subst k; exact h2 hin.2
    · have := c.2.2 i k hi
      simp at this
      have := hin.1
      omega

theorem Ord.mono {n : Nat} {base size : Nat → Int} (h : Ord n base size) : ∀ i j, i ≤ j → j < n → base i ≤ base j := by
  intro i j hij hj
  rcases Nat.lt_or_ge i j with k | k
  · have := h.2 i j k hj; have := h.1 i (by omega); omega
  · have : i = j := by omega
    subst this; exact Int.le_refl _

end Go.Proofs.Yoediw
