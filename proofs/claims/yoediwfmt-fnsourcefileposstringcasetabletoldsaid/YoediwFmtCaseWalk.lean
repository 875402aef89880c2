/-
  The walk of FnSourceFilePosStringCaseTable (function 3).
-/
import Derived.Test.YoediwFmtItoa
namespace Go.Proofs.YoediwFmt
open Go.RowKit Go.Extern.Stop Go.Stop Go.Extern

set_option maxHeartbeats 400000 in
theorem case_big (fn : ByteArray) (off line col : Int) (w : World) (hfn : 1048576 < fn.size) :
    Calls Edig.prog 3 #[.string fn, .int .i64 off, .int .i64 line, .int .i64 col] w fun e w' => e = .returned (.bool true) ∧ Below w.heap.size w w' := by
  go_enter Edig.func3, Edig.ntmps3
  go_wp2
  go_ret
  exact ⟨rfl, Below.refl _ _⟩

theorem ne_of {fn : ByteArray} (h : fn.toList.isEmpty = false) : ¬ fn.data.toList = [] := by
  rw [toList_data] at h
  intro k; rw [k] at h; cases h
theorem nil_of {fn : ByteArray} (h : fn.toList.isEmpty = true) : fn.data.toList = [] := by
  rw [toList_data] at h
  simpa using h
theorem empty_of {fn : ByteArray} (h : fn.toList.isEmpty = true) : fn = ⟨#[]⟩ := bs_of (nil_of h)

/-- The world behind a box of the call's own and a call that made memory. -/
theorem bel1 {w wa : World} {o : Obj} (h : Below (w.alloc o).heap.size (w.alloc o) wa) : Below w.heap.size w wa :=
  ((Below.refl _ w).alloc (Nat.le_refl _) o).trans (h.mono (by simp))
theorem bel2 {w a b : World} (h : Below w.heap.size w a) (k : Below a.heap.size a b) : Below w.heap.size w b := h.trans (k.mono h.size)

/-- Line above 0, a name, a column. -/
theorem case_lfc (F : Interp) (fn : ByteArray) (off line col : Int) (w : World) (hF : F.told.answers w.tape) (hfn : fn.size ≤ 1048576)
    (wl : (Lit.int .i64 line).wf = true) (wc : (Lit.int .i64 col).wf = true) (hl : 0 < line) (hne : fn.toList.isEmpty = false) (hc : (col == 0) = false) :
    Calls Edig.prog 3 #[.string fn, .int .i64 off, .int .i64 line, .int .i64 col] w fun e w' => e = .returned (.bool true) ∧ Below w.heap.size w w' := by
  have HP : Hid (bs (posText fn.data.toList line col) = fn ++ ⟨#[58]⟩ ++ bs (Lib.itoa line) ++ ⟨#[58]⟩ ++ bs (Lib.itoa col)) := by
    refine Eq.symm ?_
    apply bs_of
    simp [bs, posText, hl, ne_of hne, (by simpa using hc : ¬ col = 0)]
  have la := FmtText.itoa_length_le wl
  have lc := FmtText.itoa_length_le wc
  rw [← bs_size] at la lc
  go_enter Edig.func3, Edig.ntmps3
  go_wp2_with (go_at_call 5; go_in)
  refine (str_told F fn off line col _ (by exact hF) hfn wl wc).mono ?_
  rintro e wa ⟨rfl, ba⟩
  rw [HP.out]
  have b1 := bel1 ba
  clear ba hF
  go_wp2_with fail
  refine (itoa_any line _ wl).mono ?_
  rintro e w0 ⟨rfl, k0⟩
  have c0 := bel2 b1 k0
  clear k0 b1
  go_wp2_with fail
  refine (itoa_any col _ wc).mono ?_
  rintro e w1 ⟨rfl, k1⟩
  have c1 := bel2 c0 k1
  clear k1 c0
  go_wp2
  go_ret
  exact ⟨by simp, c1⟩

/-- Line above 0, a name, no column. -/
theorem case_lf (F : Interp) (fn : ByteArray) (off line col : Int) (w : World) (hF : F.told.answers w.tape) (hfn : fn.size ≤ 1048576)
    (wl : (Lit.int .i64 line).wf = true) (wc : (Lit.int .i64 col).wf = true) (hl : 0 < line) (hne : fn.toList.isEmpty = false) (hc : (col == 0) = true) :
    Calls Edig.prog 3 #[.string fn, .int .i64 off, .int .i64 line, .int .i64 col] w fun e w' => e = .returned (.bool true) ∧ Below w.heap.size w w' := by
  have HP : Hid (bs (posText fn.data.toList line col) = fn ++ ⟨#[58]⟩ ++ bs (Lib.itoa line)) := by
    refine Eq.symm ?_
    apply bs_of
    simp [bs, posText, hl, ne_of hne, (by simpa using hc : col = 0)]
  have la := FmtText.itoa_length_le wl
  have lc := FmtText.itoa_length_le wc
  rw [← bs_size] at la lc
  go_enter Edig.func3, Edig.ntmps3
  go_wp2_with (go_at_call 5; go_in)
  refine (str_told F fn off line col _ (by exact hF) hfn wl wc).mono ?_
  rintro e wa ⟨rfl, ba⟩
  rw [HP.out]
  have b1 := bel1 ba
  clear ba hF
  go_wp2_with fail
  refine (itoa_any line _ wl).mono ?_
  rintro e w0 ⟨rfl, k0⟩
  have c0 := bel2 b1 k0
  clear k0 b1
  go_wp2
  go_ret
  exact ⟨by simp, c0⟩

/-- Line above 0, no name, a column. -/
theorem case_lc (F : Interp) (fn : ByteArray) (off line col : Int) (w : World) (hF : F.told.answers w.tape) (hfn : fn.size ≤ 1048576)
    (wl : (Lit.int .i64 line).wf = true) (wc : (Lit.int .i64 col).wf = true) (hl : 0 < line) (hne : fn.toList.isEmpty = true) (hc : (col == 0) = false) :
    Calls Edig.prog 3 #[.string fn, .int .i64 off, .int .i64 line, .int .i64 col] w fun e w' => e = .returned (.bool true) ∧ Below w.heap.size w w' := by
  have HP : Hid (bs (posText fn.data.toList line col) = bs (Lib.itoa line) ++ ⟨#[58]⟩ ++ bs (Lib.itoa col)) := by
    refine Eq.symm ?_
    apply bs_of
    simp [bs, posText, hl, nil_of hne, (by simpa using hc : ¬ col = 0)]
  have la := FmtText.itoa_length_le wl
  have lc := FmtText.itoa_length_le wc
  rw [← bs_size] at la lc
  go_enter Edig.func3, Edig.ntmps3
  go_wp2_with (go_at_call 5; go_in)
  refine (str_told F fn off line col _ (by exact hF) hfn wl wc).mono ?_
  rintro e wa ⟨rfl, ba⟩
  rw [HP.out]
  have b1 := bel1 ba
  clear ba hF
  go_wp2_with fail
  refine (itoa_any line _ wl).mono ?_
  rintro e w0 ⟨rfl, k0⟩
  have c0 := bel2 b1 k0
  clear k0 b1
  go_wp2_with fail
  refine (itoa_any col _ wc).mono ?_
  rintro e w1 ⟨rfl, k1⟩
  have c1 := bel2 c0 k1
  clear k1 c0
  go_wp2
  go_ret
  exact ⟨by simp, c1⟩

/-- Line above 0, no name, no column. -/
theorem case_l (F : Interp) (fn : ByteArray) (off line col : Int) (w : World) (hF : F.told.answers w.tape) (hfn : fn.size ≤ 1048576)
    (wl : (Lit.int .i64 line).wf = true) (wc : (Lit.int .i64 col).wf = true) (hl : 0 < line) (hne : fn.toList.isEmpty = true) (hc : (col == 0) = true) :
    Calls Edig.prog 3 #[.string fn, .int .i64 off, .int .i64 line, .int .i64 col] w fun e w' => e = .returned (.bool true) ∧ Below w.heap.size w w' := by
  have HP : Hid (bs (posText fn.data.toList line col) = bs (Lib.itoa line)) := by
    refine Eq.symm ?_
    apply bs_of
    simp [bs, posText, hl, nil_of hne, (by simpa using hc : col = 0)]
  have la := FmtText.itoa_length_le wl
  have lc := FmtText.itoa_length_le wc
  rw [← bs_size] at la lc
  go_enter Edig.func3, Edig.ntmps3
  go_wp2_with (go_at_call 5; go_in)
  refine (str_told F fn off line col _ (by exact hF) hfn wl wc).mono ?_
  rintro e wa ⟨rfl, ba⟩
  rw [HP.out]
  have b1 := bel1 ba
  clear ba hF
  go_wp2_with fail
  refine (itoa_any line _ wl).mono ?_
  rintro e w0 ⟨rfl, k0⟩
  have c0 := bel2 b1 k0
  clear k0 b1
  go_wp2
  go_ret
  exact ⟨by simp, c0⟩

/-- No line, a name. -/
theorem case_f (F : Interp) (fn : ByteArray) (off line col : Int) (w : World) (hF : F.told.answers w.tape) (hfn : fn.size ≤ 1048576)
    (wl : (Lit.int .i64 line).wf = true) (wc : (Lit.int .i64 col).wf = true) (hl : line ≤ 0) (hne : fn.toList.isEmpty = false) :
    Calls Edig.prog 3 #[.string fn, .int .i64 off, .int .i64 line, .int .i64 col] w fun e w' => e = .returned (.bool true) ∧ Below w.heap.size w w' := by
  have HP : Hid (bs (posText fn.data.toList line col) = fn) := by
    refine Eq.symm ?_
    apply bs_of
    rw [posText, if_neg (by omega), if_neg (ne_of hne)]
  have la := FmtText.itoa_length_le wl
  have lc := FmtText.itoa_length_le wc
  rw [← bs_size] at la lc
  go_enter Edig.func3, Edig.ntmps3
  go_wp2_with (go_at_call 5; go_in)
  refine (str_told F fn off line col _ (by exact hF) hfn wl wc).mono ?_
  rintro e wa ⟨rfl, ba⟩
  rw [HP.out]
  have b1 := bel1 ba
  clear ba hF
  go_wp2
  go_ret
  exact ⟨by simp, b1⟩

/-- No line, no name. -/
theorem case_0 (F : Interp) (fn : ByteArray) (off line col : Int) (w : World) (hF : F.told.answers w.tape) (hfn : fn.size ≤ 1048576)
    (wl : (Lit.int .i64 line).wf = true) (wc : (Lit.int .i64 col).wf = true) (hl : line ≤ 0) (hne : fn.toList.isEmpty = true) :
    Calls Edig.prog 3 #[.string fn, .int .i64 off, .int .i64 line, .int .i64 col] w fun e w' => e = .returned (.bool true) ∧ Below w.heap.size w w' := by
  have HP : Hid (bs (posText fn.data.toList line col) = ⟨#[45]⟩) := by
    refine Eq.symm ?_
    apply bs_of
    rw [posText, if_neg (by omega), if_pos (nil_of hne)]
  have la := FmtText.itoa_length_le wl
  have lc := FmtText.itoa_length_le wc
  rw [← bs_size] at la lc
  go_enter Edig.func3, Edig.ntmps3
  go_wp2_with (go_at_call 5; go_in)
  refine (str_told F fn off line col _ (by exact hF) hfn wl wc).mono ?_
  rintro e wa ⟨rfl, ba⟩
  rw [HP.out]
  have b1 := bel1 ba
  clear ba hF
  go_wp2
  go_ret
  exact ⟨by simp, b1⟩

theorem case_any (F : Interp) (fn : ByteArray) (off line col : Int) (w : World) (hF : F.told.answers w.tape)
    (wl : (Lit.int .i64 line).wf = true) (wc : (Lit.int .i64 col).wf = true) :
    Calls Edig.prog 3 #[.string fn, .int .i64 off, .int .i64 line, .int .i64 col] w fun e w' => e = .returned (.bool true) ∧ Below w.heap.size w w' := by
  by_cases h : fn.size ≤ 1048576
  · by_cases hl : 0 < line
    · cases hne : fn.toList.isEmpty
      · cases hc : (col == 0)
        · exact case_lfc F fn off line col w hF h wl wc hl hne hc
        · exact case_lf F fn off line col w hF h wl wc hl hne hc
      · cases hc : (col == 0)
        · exact case_lc F fn off line col w hF h wl wc hl hne hc
        · exact case_l F fn off line col w hF h wl wc hl hne hc
    · cases hne : fn.toList.isEmpty
      · exact case_f F fn off line col w hF h wl wc (by omega) hne
      · exact case_0 F fn off line col w hF h wl wc (by omega) hne
  · exact case_big fn off line col w (by omega)

end Go.Proofs.YoediwFmt
