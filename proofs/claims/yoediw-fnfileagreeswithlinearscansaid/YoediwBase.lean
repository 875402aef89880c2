/-
  What the walks of this seat share: rows of cells, made rows, the world behind a call.
-/
import Derived.Test.YoediwRows
import Derived.WalkKit
import Derived.WalkSpells
import Derived.WalkLawsBesides
import Derived.Lib.BufferMore
import Derived.Laws.MakeOwn
namespace Go.Proofs.Yoediw
open Go.RowKit

/-- The cells of a slice that begins at a: cell j holds f j, for j below n. -/
def RowV (W : World) (a : Option Addr) (n : Nat) (f : Nat → Value) : Prop :=
  ∀ j, j < n → ∃ b off, a = some ⟨b, off, none⟩ ∧ W.cell? ⟨b, off + j, none⟩ = some (f j)

theorem lt_of_cell {W : World} {b o : Nat} {v : Value} (h : W.cell? ⟨b, o, none⟩ = some v) : b < W.heap.size := by
  rcases Nat.lt_or_ge b W.heap.size with k | k
  · exact k
  · simp [World.cell?, Array.getElem?_eq_none k] at h

theorem RowV.below {W w' : World} {a : Option Addr} {n : Nat} {f : Nat → Value} (h : RowV W a n f) (hb : Below W.heap.size W w') : RowV w' a n f := by
  intro j hj
  obtain ⟨b, off, rfl, hc⟩ := h j hj
  exact ⟨b, off, rfl, by rw [hb.cell (lt_of_cell hc)]; exact hc⟩

theorem RowV.nil (W : World) (a : Option Addr) (f : Nat → Value) : RowV W a 0 f := fun j hj => absurd hj (Nat.not_lt_zero j)

theorem bel2 {w a b : World} (h : Below w.heap.size w a) (k : Below a.heap.size a b) : Below w.heap.size w b := h.trans (k.mono h.size)

/-- A new row's cells. -/
def zeroRow (v : Value) (n : Nat) : Array Value := madeCells v.cells n
theorem zeroRow_size (v : Value) (n : Nat) : (zeroRow v n).size = n := size_madeCells _ _
theorem zeroRow_some (v : Value) {n j : Nat} (h : j < n) : ∃ x, (zeroRow v n)[j]? = some x :=
  ⟨_, Array.getElem?_eq_getElem (by rw [zeroRow_size]; exact h)⟩

theorem info_of {t : TypeId} {z : Value} {s b : Nat} (h : (Edig.prog.info? t).map (fun i => (i.zero, i.size, i.bytes)) = some (some z, s, b)) :
    ∃ i, Edig.prog.info? t = some i ∧ i.zero = some z ∧ i.size = s ∧ i.bytes = b := by
  obtain ⟨i, hi, e⟩ := Option.map_eq_some_iff.1 h
  simp only [Prod.mk.injEq] at e
  exact ⟨i, hi, e.1, e.2.1, e.2.2⟩

/-- make([]int, n), make([]string, n), make([]*SourceFile, n). -/
theorem mk22 (n : Nat) (hn : n ≤ 1048576) (W : World) : Sem.run Edig.prog (Instr.makeSlice 22 (.int .i64 (n : Int)) (.int .i64 (n : Int))) W = .ok (.slice (some ⟨W.heap.size, 0, none⟩) n n) (W.alloc (.cells (zeroRow (.int .i64 0) n) 3)) := by
  obtain ⟨i, hi, hz, hs, hb⟩ := info_of (t := 3) (z := (.int .i64 0)) (s := 1) (b := 8) (by kernel_rfl)
  have h := run_make W 22 3 i _ (by kernel_rfl) hi hz .i64 .i64 (n : Int) (n : Int) (by omega) (Int.le_refl _) (by rw [hb]; omega) (by omega)
  rw [h, hs]; simp [zeroRow]
theorem mk37 (n : Nat) (hn : n ≤ 1048576) (W : World) : Sem.run Edig.prog (Instr.makeSlice 37 (.int .i64 (n : Int)) (.int .i64 (n : Int))) W = .ok (.slice (some ⟨W.heap.size, 0, none⟩) n n) (W.alloc (.cells (zeroRow (.string ⟨#[]⟩) n) 9)) := by
  obtain ⟨i, hi, hz, hs, hb⟩ := info_of (t := 9) (z := (.string ⟨#[]⟩)) (s := 1) (b := 16) (by kernel_rfl)
  have h := run_make W 37 9 i _ (by kernel_rfl) hi hz .i64 .i64 (n : Int) (n : Int) (by omega) (Int.le_refl _) (by rw [hb]; omega) (by omega)
  rw [h, hs]; simp [zeroRow]
theorem mk27 (n : Nat) (hn : n ≤ 1048576) (W : World) : Sem.run Edig.prog (Instr.makeSlice 27 (.int .i64 (n : Int)) (.int .i64 (n : Int))) W = .ok (.slice (some ⟨W.heap.size, 0, none⟩) n n) (W.alloc (.cells (zeroRow (.pointer none) n) 28)) := by
  obtain ⟨i, hi, hz, hs, hb⟩ := info_of (t := 28) (z := (.pointer none)) (s := 1) (b := 8) (by kernel_rfl)
  have h := run_make W 27 28 i _ (by kernel_rfl) hi hz .i64 .i64 (n : Int) (n : Int) (by omega) (Int.le_refl _) (by rw [hb]; omega) (by omega)
  rw [h, hs]; simp [zeroRow]

/-- A block of n cells of the call's own, the first k of which hold f. -/
structure Fill (N n k : Nat) (f : Nat → Value) (wr : World) : Prop where
  free : ∀ j, j < n → wr.frozen? ⟨N, j, none⟩ = false
  has : ∀ j, j < n → ∃ x, wr.cell? ⟨N, j, none⟩ = some x
  done : ∀ j, j < k → wr.cell? ⟨N, j, none⟩ = some (f j)

theorem Fill.start (w : World) (v : Value) (n : Nat) (e : TypeId) (f : Nat → Value) : Fill w.heap.size n 0 f (w.alloc (.cells (zeroRow v n) e)) := by
  refine ⟨fun j _ => World.frozen?_alloc_new _ _ _ _, fun j hj => ?_, fun j hj => absurd hj (Nat.not_lt_zero j)⟩
  obtain ⟨x, hx⟩ := zeroRow_some v hj
  exact ⟨x, by rw [World.cell?_alloc_new]; exact hx⟩

theorem Fill.put {N n k : Nat} {f : Nat → Value} {wr : World} (h : Fill N n k f wr) (hk : k < n) : Fill N n (k + 1) f (wr.setCell ⟨N, k, none⟩ (f k)) := by
  obtain ⟨x, hx⟩ := h.has k hk
  refine ⟨fun j hj => by rw [World.frozen?_setCell]; exact h.free j hj, fun j hj => ?_, fun j hj => ?_⟩
  · by_cases e : j = k
    · subst e; exact ⟨_, World.cell?_setCell_same _ _ _ hx⟩
    · rw [World.cell?_setCell_other _ _ _ _ (by intro c; injection c with _ c2; exact e c2.symm)]
      exact h.has j hj
  · by_cases e : j = k
    · subst e; exact World.cell?_setCell_same _ _ _ hx
    · rw [World.cell?_setCell_other _ _ _ _ (by intro c; injection c with _ c2; exact e c2.symm)]
      exact h.done j (by omega)

/-- What leaves the block alone leaves the row. -/
theorem Fill.keep {N n k : Nat} {f : Nat → Value} {w w' : World} (h : Fill N n k f w) (hb : w'.heap[N]? = w.heap[N]?) : Fill N n k f w' := by
  have hc : ∀ j, w'.cell? ⟨N, j, none⟩ = w.cell? ⟨N, j, none⟩ := fun j => World.cell?_of_block (w := w) hb
  have hf : ∀ j, w'.frozen? ⟨N, j, none⟩ = w.frozen? ⟨N, j, none⟩ := fun j => World.frozen?_of_block (w := w) hb
  exact ⟨fun j hj => by rw [hf]; exact h.free j hj, fun j hj => by rw [hc]; exact h.has j hj, fun j hj => by rw [hc]; exact h.done j hj⟩

theorem Fill.row {N n : Nat} {f : Nat → Value} {w : World} (h : Fill N n n f w) : RowV w (some ⟨N, 0, none⟩) n f :=
  fun j hj => ⟨N, 0, rfl, by rw [Nat.zero_add]; exact h.done j hj⟩

end Go.Proofs.Yoediw
