/-
  (parser.SourceFilePos).String, function 6: for every F, its six ways.
-/
import Derived.Test.YoediwFmtFacts
import Derived.WalkKit
import Derived.WalkSpells
namespace Go.Proofs.YoediwFmt
open Go.RowKit Go.Extern.Stop Go.Stop Go.Extern

attribute [local go_sem] Edig.call10 Edig.guard Edig.fmtA Edig.fmtAr Edig.fmtB Edig.fmtBr Edig.op3_100

/-- What fmt is asked at the format without and with the colon. -/
def rdA (n : Int) : List (List UInt8) := [[37, 100], Edig.shape3, digits 8 (n % 18446744073709551616).toNat]
def rdB (n : Int) : List (List UInt8) := [[58, 37, 100], Edig.shape3, digits 8 (n % 18446744073709551616).toNat]

theorem below4 (w : World) (a b c d : Obj) : Below w.heap.size w ((((w.alloc a).alloc b).alloc c).alloc d).drew.drew :=
  (((((Below.refl _ w).alloc (Nat.le_refl _) a).alloc (by simp) b).alloc (by simp; omega) c).alloc (by simp; omega) d).drew.drew
theorem below3 (w : World) (a b c : Obj) : Below w.heap.size w (((w.alloc a).alloc b).alloc c).drew :=
  ((((Below.refl _ w).alloc (Nat.le_refl _) a).alloc (by simp) b).alloc (by simp; omega) c).drew
theorem below2 (w : World) (a b : Obj) : Below w.heap.size w ((w.alloc a).alloc b) :=
  ((Below.refl _ w).alloc (Nat.le_refl _) a).alloc (by simp) b

/-- Line above 0, a name, a column. -/
theorem str_lfc (F : Interp) (fn A B : ByteArray) (off line col : Int) (w : World) (hF : F.answers w.tape) (hfn : fn.size ≤ 1048576) (hl : 0 < line)
    (hne : fn.toList.isEmpty = false) (hc : (col == 0) = false)
    (hA : FmtStop.textOf (F "fmt.Sprintf" (rdA line) 0) = A) (hB : FmtStop.textOf (F "fmt.Sprintf" (rdB col) 0) = B) (ha : A.size ≤ 30) (hb : B.size ≤ 30)
    (hE : (fn ++ ⟨#[58]⟩ ++ A ++ B).toList.isEmpty = false) :
    Calls Edig.prog 6 #[.agg #[.string fn, .int .i64 off, .int .i64 line, .int .i64 col]] w fun e w' => e = .returned (.string (fn ++ ⟨#[58]⟩ ++ A ++ B)) ∧ Below w.heap.size w w' := by
  have hF' := answers_open hF
  unfold rdA at hA
  unfold rdB at hB
  go_enter Edig.func6, Edig.ntmps6
  go_wp2
  go_ret
  exact ⟨rfl, below4 w _ _ _ _⟩

/-- Line above 0, a name, no column. -/
theorem str_lf (F : Interp) (fn A : ByteArray) (off line : Int) (w : World) (hF : F.answers w.tape) (hfn : fn.size ≤ 1048576) (hl : 0 < line)
    (hne : fn.toList.isEmpty = false)
    (hA : FmtStop.textOf (F "fmt.Sprintf" (rdA line) 0) = A) (ha : A.size ≤ 30)
    (hE : (fn ++ ⟨#[58]⟩ ++ A).toList.isEmpty = false) :
    Calls Edig.prog 6 #[.agg #[.string fn, .int .i64 off, .int .i64 line, .int .i64 0]] w fun e w' => e = .returned (.string (fn ++ ⟨#[58]⟩ ++ A)) ∧ Below w.heap.size w w' := by
  have hF' := answers_open hF
  unfold rdA at hA
  go_enter Edig.func6, Edig.ntmps6
  go_wp2
  go_ret
  exact ⟨rfl, below3 w _ _ _⟩

/-- Line above 0, no name, a column. -/
theorem str_lc (F : Interp) (fn A B : ByteArray) (off line col : Int) (w : World) (hF : F.answers w.tape) (hfn : fn.size ≤ 1048576) (hl : 0 < line)
    (hne : fn.toList.isEmpty = true) (hc : (col == 0) = false)
    (hA : FmtStop.textOf (F "fmt.Sprintf" (rdA line) 0) = A) (hB : FmtStop.textOf (F "fmt.Sprintf" (rdB col) 0) = B) (ha : A.size ≤ 30) (hb : B.size ≤ 30)
    (hE : (fn ++ A ++ B).toList.isEmpty = false) :
    Calls Edig.prog 6 #[.agg #[.string fn, .int .i64 off, .int .i64 line, .int .i64 col]] w fun e w' => e = .returned (.string (fn ++ A ++ B)) ∧ Below w.heap.size w w' := by
  have hF' := answers_open hF
  unfold rdA at hA
  unfold rdB at hB
  go_enter Edig.func6, Edig.ntmps6
  go_wp2
  go_ret
  exact ⟨rfl, below4 w _ _ _ _⟩

/-- Line above 0, no name, no column. -/
theorem str_l (F : Interp) (fn A : ByteArray) (off line : Int) (w : World) (hF : F.answers w.tape) (hfn : fn.size ≤ 1048576) (hl : 0 < line)
    (hne : fn.toList.isEmpty = true)
    (hA : FmtStop.textOf (F "fmt.Sprintf" (rdA line) 0) = A) (ha : A.size ≤ 30)
    (hE : (fn ++ A).toList.isEmpty = false) :
    Calls Edig.prog 6 #[.agg #[.string fn, .int .i64 off, .int .i64 line, .int .i64 0]] w fun e w' => e = .returned (.string (fn ++ A)) ∧ Below w.heap.size w w' := by
  have hF' := answers_open hF
  unfold rdA at hA
  go_enter Edig.func6, Edig.ntmps6
  go_wp2
  go_ret
  exact ⟨rfl, below3 w _ _ _⟩

/-- No line, a name. -/
theorem str_f (fn : ByteArray) (off line col : Int) (w : World) (hl : line ≤ 0)
    (hne : fn.toList.isEmpty = false) :
    Calls Edig.prog 6 #[.agg #[.string fn, .int .i64 off, .int .i64 line, .int .i64 col]] w fun e w' => e = .returned (.string fn) ∧ Below w.heap.size w w' := by
  go_enter Edig.func6, Edig.ntmps6
  go_wp2
  go_ret
  exact ⟨rfl, below2 w _ _⟩

/-- No line, no name. -/
theorem str_0 (fn : ByteArray) (off line col : Int) (w : World) (hl : line ≤ 0)
    (hne : fn.toList.isEmpty = true) :
    Calls Edig.prog 6 #[.agg #[.string fn, .int .i64 off, .int .i64 line, .int .i64 col]] w fun e w' => e = .returned (.string ⟨#[45]⟩) ∧ Below w.heap.size w w' := by
  go_enter Edig.func6, Edig.ntmps6
  go_wp2
  go_ret
  exact ⟨rfl, below2 w _ _⟩

end Go.Proofs.YoediwFmt
