/-
  What the walks are told of the arguments.
-/
import Derived.Test.YoediwFile
import Derived.Test.YoediwClone
import Derived.ProofKit
import Derived.OpenShut
namespace Go.Proofs.Yoediw
open Go.ChangeShapes Go.WideShapes Go.ChangeAt Go.RowKit

/-- A slice of ints that came in. -/
structure IntArg (w : World) (a : Option Addr) (n cap : Nat) (z : Nat → Int) : Prop where
  nil : a = none → n = 0 ∧ cap = 0
  max : n ≤ maxLen
  row : RowV w a n (fun j => .int .i64 (z j))
  lo : ∀ j, j < n → -9223372036854775808 ≤ z j
  hi : ∀ j, j < n → z j ≤ 9223372036854775807

/-- A slice of strings that came in. -/
structure StrArg (w : World) (a : Option Addr) (n cap : Nat) (z : Nat → ByteArray) : Prop where
  nil : a = none → n = 0 ∧ cap = 0
  max : n ≤ maxLen
  row : RowV w a n (fun j => .string (z j))

theorem IntArg.below {w w' : World} {a : Option Addr} {n cap : Nat} {z : Nat → Int} (h : IntArg w a n cap z) (hb : Below w.heap.size w w') : IntArg w' a n cap z := ⟨h.nil, h.max, h.row.below hb, h.lo, h.hi⟩
theorem StrArg.below {w w' : World} {a : Option Addr} {n cap : Nat} {z : Nat → ByteArray} (h : StrArg w a n cap z) (hb : Below w.heap.size w w') : StrArg w' a n cap z := ⟨h.nil, h.max, h.row.below hb⟩

theorem row_of_cells {w : World} {x : Addr} {n : Nat} {f : Nat → Value} (h : ∀ i, i < n → w.cell? (x.add i) = some (f i)) : RowV w (some x) n f := by
  intro j hj
  obtain ⟨b, off, spot⟩ := x
  have hspot : spot = none := by simpa [Addr.add] using World.cell?_spot (h 0 (by omega))
  subst hspot
  exact ⟨b, off, rfl, by rw [← Go.WideShapes.add_plain]; exact h j hj⟩

/-- What the shells are told of a slice of integers, as the walks of this seat take it. -/
def IsRow (k : IntKind) (w : World) (a : Option Addr) (len cap : Nat) (zs : List Int) : Prop :=
  (a = none ∧ len = 0 ∧ cap = 0 ∧ zs = []) ∨
  ∃ x, a = some x ∧ len ≤ cap ∧ cap ≤ maxLen ∧ zs.length = cap ∧ (∀ i, i < zs.length → w.cell? (x.add i) = some (.int k (zs.getD i 0))) ∧ ∀ n ∈ zs, (Lit.int k n).wf = true

theorem IsRow.arg {w : World} {a : Option Addr} {len cap : Nat} {zs : List Int} (h : IsRow .i64 w a len cap zs) : IntArg w a len cap (fun j => zs.getD j 0) := by
  rcases h with ⟨rfl, rfl, rfl, rfl⟩ | ⟨x, rfl, hl, hm, hz, hc, hw⟩
  · exact ⟨fun _ => ⟨rfl, rfl⟩, Nat.zero_le _, RowV.nil _ _ _, fun j hj => absurd hj (Nat.not_lt_zero j), fun j hj => absurd hj (Nat.not_lt_zero j)⟩
  · have hb : ∀ j, j < len → -9223372036854775808 ≤ zs.getD j 0 ∧ zs.getD j 0 ≤ 9223372036854775807 := fun j hj => by
      have hj' : j < zs.length := by omega
      have e : zs.getD j 0 = zs[j] := by simp [List.getD, hj']
      have := hw zs[j] (List.getElem_mem hj')
      simp [Lit.wf, IntKind.min, IntKind.max, IntKind.signed, IntKind.bits] at this
      rw [e]; omega
    exact ⟨(fun e => by cases e), Nat.le_trans hl hm, row_of_cells (fun i hi => hc i (by omega)), fun j hj => (hb j hj).1, fun j hj => (hb j hj).2⟩

/-- A row whose block lies below S. -/
def RowB (W : World) (a : Option Addr) (n S : Nat) (f : Nat → Value) : Prop :=
  ∀ j, j < n → ∃ b off, a = some ⟨b, off, none⟩ ∧ b < S ∧ W.cell? ⟨b, off + j, none⟩ = some (f j)

theorem RowV.bound {W W' : World} {a : Option Addr} {n : Nat} {f : Nat → Value} (h : RowV W a n f) (hb : Below W.heap.size W W') : RowB W' a n W.heap.size f := by
  intro j hj
  obtain ⟨b, off, e, hc⟩ := h j hj
  have hlt := lt_of_cell hc
  exact ⟨b, off, e, hlt, by rw [hb.cell (p := ⟨b, off + j, none⟩) hlt]; exact hc⟩

theorem RowB.kp {W W' : World} {a : Option Addr} {n S s : Nat} {f : Nat → Value} (h : RowB W a n S f) (k : Kp s W W') (hs : S ≤ s) : RowB W' a n S f := by
  intro j hj
  obtain ⟨b, off, e, hlt, hc⟩ := h j hj
  exact ⟨b, off, e, hlt, k.cell (by omega) hc⟩

theorem RowB.below {W W' : World} {a : Option Addr} {n S : Nat} {f : Nat → Value} (h : RowB W a n S f) (hb : Below S W W') : RowB W' a n S f := by
  intro j hj
  obtain ⟨b, off, e, hlt, hc⟩ := h j hj
  exact ⟨b, off, e, hlt, by rw [hb.cell (p := ⟨b, off + j, none⟩) hlt]; exact hc⟩

/-- A set without files answers nil. -/
theorem File_empty (s : Nat) (q : Nat → Nat) (base size : Nat → Int) (last : Option Nat) (B p : Int) (w : World) (hfs : FS w s none 0 0 q base size last B) :
    Calls Edig.prog 11 #[.pointer (some ⟨s, 0, none⟩), .int .i64 p] w fun e w' => e = .returned (.pointer none) ∧ Kp s w w' ∧ FS w' s none 0 0 q base size none B := by
  refine (File_any s none 0 0 q base size last B p w hfs ⟨⟨fun j hj => absurd hj (Nat.not_lt_zero j), fun _ j _ hj => absurd hj (Nat.not_lt_zero j)⟩, Nat.zero_le _, fun j hj => absurd hj (Nat.not_lt_zero j)⟩).mono ?_
  rintro e w' ⟨rfl, hk, last', hf⟩
  cases last' with
  | none => exact ⟨rfl, hk, hf⟩
  | some i => exact absurd (hf.lastlt i rfl) (Nat.not_lt_zero i)

/-- NewFileSet(). -/
theorem new_any (w : World) : Calls Edig.prog 10 #[] w fun e w' => e = .returned (.pointer (some ⟨w.heap.size, 0, none⟩)) ∧ w' = w.alloc (.cells #[.int .i64 1, .slice none 0 0, .pointer none] 30) := by
  go_enter Edig.func10, Edig.ntmps10
  go_wp2
  go_ret
  exact ⟨rfl, rfl⟩

theorem FS.new (w : World) (q : Nat → Nat) (base size : Nat → Int) : FS (w.alloc (.cells #[.int .i64 1, .slice none 0 0, .pointer none] 30)) w.heap.size none 0 0 q base size none 1 := by
  refine ⟨?_, ?_, ?_, fun j _ => World.frozen?_alloc_new _ _ _ _, RowV.nil _ _ _, (fun b off e => by cases e), (fun j hj => absurd hj (Nat.not_lt_zero j)), (fun j hj => absurd hj (Nat.not_lt_zero j)), (fun j hj => absurd hj (Nat.not_lt_zero j)), (fun i e => by cases e)⟩
  · rw [World.cell?_alloc_new]; rfl
  · rw [World.cell?_alloc_new]; rfl
  · rw [World.cell?_alloc_new]; rfl

end Go.Proofs.Yoediw
