/-
  Pointers held against each other.
-/
import Derived.Test.YoediwAdd
import Derived.LaidEqlPtr
import Derived.Lib.Builder
namespace Go.Proofs.Yoediw
open Go.RowKit

/-- p != p, p a *SourceFile. -/
theorem neq_self (p : Option Addr) (W : World) : (binOp .neq 28 (.pointer p) (.pointer p)).run Edig.prog W = .ok (.bool false) W := by
  obtain ⟨j, hj⟩ : ∃ j, Edig.prog.info? 36 = some j := Option.isSome_iff_exists.1 (by kernel_rfl)
  cases p with
  | none => exact run_neq_pointer_nil W 28 none (by kernel_rfl)
  | some a => exact Lib.run_neq_ptr_same W a Edig.underlying28 hj


theorem first_set (w : World) : ((w.alloc (.cells #[.int .i64 1, .slice none 0 0, .pointer none] 30)).alloc (.cells #[.int .i64 1, .slice none 0 0, .pointer none] 30)).heap[w.heap.size]? = some (setObj 1 (.slice none 0 0) none) := by
  rw [Below.heap_alloc _ _ _ (by simp)]
  exact heap_new w _
theorem second_set (w : World) : ((w.alloc (.cells #[.int .i64 1, .slice none 0 0, .pointer none] 30)).alloc (.cells #[.int .i64 1, .slice none 0 0, .pointer none] 30)).heap[w.heap.size + 1]? = some (setObj 1 (.slice none 0 0) none) := by
  have := heap_new (w.alloc (.cells #[.int .i64 1, .slice none 0 0, .pointer none] 30)) (.cells #[.int .i64 1, .slice none 0 0, .pointer none] 30)
  simpa [setObj] using this

/-- Two fresh sets are distinct. -/
theorem two_new (w : World) : (binOp .eql 25 (.pointer (some ⟨w.heap.size, 0, none⟩)) (.pointer (some ⟨w.heap.size + 1, 0, none⟩))).run Edig.prog ((w.alloc (.cells #[.int .i64 1, .slice none 0 0, .pointer none] 30)).alloc (.cells #[.int .i64 1, .slice none 0 0, .pointer none] 30)) =
    .ok (.bool false) ((w.alloc (.cells #[.int .i64 1, .slice none 0 0, .pointer none] 30)).alloc (.cells #[.int .i64 1, .slice none 0 0, .pointer none] 30)) := by
  obtain ⟨j, hj, hz⟩ : ∃ j, Edig.prog.info? 30 = some j ∧ j.size = 3 := by
    have e : (Edig.prog.info? 30).map (·.size) = some 3 := by kernel_rfl
    exact Option.map_eq_some_iff.1 e
  exact run_eql_ptr_other _ Edig.underlying25 hj (by omega) (by intro e; injection e with e; omega) (first_set w) (second_set w)

end Go.Proofs.Yoediw
