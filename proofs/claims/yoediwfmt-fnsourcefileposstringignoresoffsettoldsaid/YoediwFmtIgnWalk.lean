/-
  The walk of FnSourceFilePosStringIgnoresOffset (function 4).
-/
import Derived.Test.YoediwFmtPlain
namespace Go.Proofs.YoediwFmt
open Go.RowKit Go.Extern.Stop Go.Stop Go.Extern

theorem size_data (s : ByteArray) : s.data.toList.length = s.size := by simp

theorem beq0 {n : Nat} (h : 0 < n) : ((n : Int) == 0) = false := by rw [beq_eq_false_iff_ne]; omega

theorem ext_opens {A fn : ByteArray} {r : List UInt8} (h : A.data.toList = fn.data.toList ++ r) : ((A.extract 0 fn.size).toList == fn.toList) = true := by
  rw [toList_data, toList_data, beq_iff_eq]
  rw [ByteArray.data_extract, Array.toList_extract, h, List.extract_eq_take_drop, List.drop_zero, Nat.sub_zero]
  rw [← size_data fn, List.take_left]

theorem strs_ne {A C : ByteArray} (h : A.data.toList ≠ C.data.toList) : (C.toList == A.toList) = false := by
  rw [toList_data, toList_data, beq_eq_false_iff_ne]
  exact fun e => h e.symm

set_option maxHeartbeats 400000 in
theorem ign_big (fn : ByteArray) (o1 o2 line c1 c2 : Int) (w : World) (hfn : 1048576 < fn.size) :
    Calls Edig.prog 4 #[.string fn, .int .i64 o1, .int .i64 o2, .int .i64 line, .int .i64 c1, .int .i64 c2] w fun e w' => e = .returned (.bool true) ∧ Below w.heap.size w w' := by
  go_enter Edig.func4, Edig.ntmps4
  go_wp2
  go_ret
  exact ⟨rfl, Below.refl _ _⟩

set_option maxHeartbeats 400000 in
theorem ign_small (F : Interp) (fn : ByteArray) (o1 o2 line c1 c2 : Int) (w : World) (hF : F.told.answers w.tape) (hfn : fn.size ≤ 1048576)
    (wl : (Lit.int .i64 line).wf = true) (w1 : (Lit.int .i64 c1).wf = true) (w2 : (Lit.int .i64 c2).wf = true) :
    Calls Edig.prog 4 #[.string fn, .int .i64 o1, .int .i64 o2, .int .i64 line, .int .i64 c1, .int .i64 c2] w fun e w' => e = .returned (.bool true) ∧ Below w.heap.size w w' := by
  go_enter Edig.func4, Edig.ntmps4
  go_wp2_with (go_at_call 8; go_in)
  refine (str_told F fn o1 line c1 _ hF hfn wl w1).mono ?_
  rintro e wa ⟨rfl, ba⟩
  go_wp2_with fail
  have hFa : F.told.answers wa.tape := by rw [ba.tape]; exact hF
  refine (str_told F fn o2 line c1 _ hFa hfn wl w1).mono ?_
  rintro e wb ⟨rfl, bb⟩
  go_wp2_with fail
  have hFb : F.told.answers wb.tape := by rw [bb.tape]; exact hFa
  refine (str_told F fn o2 line c2 _ hFb hfn wl w2).mono ?_
  rintro e wc ⟨rfl, bc⟩
  have hbel : Below w.heap.size w wc := (ba.trans (bb.mono ba.size)).trans (bc.mono (Nat.le_trans ba.size bb.size))
  obtain ⟨r, hr⟩ := posText_opens fn.data.toList line c1
  have hx := ext_opens (A := bs (posText fn.data.toList line c1)) (fn := fn) (r := r) (by rw [bs_list, hr])
  have hn := posText_ne fn.data.toList line c1
  have hlen : 0 < (bs (posText fn.data.toList line c1)).size := by rw [bs_size]; exact List.length_pos_iff.2 hn
  have hle : fn.size ≤ (bs (posText fn.data.toList line c1)).size := by rw [bs_size, hr, List.length_append, size_data]; omega
  clear hF hFa hFb wl w1 w2 hr hn ba bb bc
  by_cases hl : line ≤ 0
  · rw [posText_noline fn.data.toList line c2 c1 hl]
    generalize bs (posText fn.data.toList line c1) = A at *
    have hz : ((A.size : Int) == 0) = false := beq0 hlen
    clear hlen
    go_wp2
    go_ret
    exact ⟨rfl, hbel⟩
  · have hl' : 0 < line := by omega
    by_cases hc : c1 = c2
    · subst hc
      generalize bs (posText fn.data.toList line c1) = A at *
      have hz : ((A.size : Int) == 0) = false := beq0 hlen
      clear hlen
      go_wp2
      go_ret
      exact ⟨rfl, hbel⟩
    · have hq := strs_ne (A := bs (posText fn.data.toList line c1)) (C := bs (posText fn.data.toList line c2)) (by rw [bs_list, bs_list]; exact fun e => hc (posText_col hl' e))
      generalize bs (posText fn.data.toList line c1) = A at *
      generalize bs (posText fn.data.toList line c2) = C at *
      have hz : ((A.size : Int) == 0) = false := beq0 hlen
      have hc' : (c1 == c2) = false := by simpa using hc
      clear hlen hc
      go_wp2
      go_ret
      exact ⟨rfl, hbel⟩

theorem ign_any (F : Interp) (fn : ByteArray) (o1 o2 line c1 c2 : Int) (w : World) (hF : F.told.answers w.tape)
    (wl : (Lit.int .i64 line).wf = true) (w1 : (Lit.int .i64 c1).wf = true) (w2 : (Lit.int .i64 c2).wf = true) :
    Calls Edig.prog 4 #[.string fn, .int .i64 o1, .int .i64 o2, .int .i64 line, .int .i64 c1, .int .i64 c2] w fun e w' => e = .returned (.bool true) ∧ Below w.heap.size w w' := by
  by_cases h : fn.size ≤ 1048576
  · exact ign_small F fn o1 o2 line c1 c2 w hF h wl w1 w2
  · exact ign_big fn o1 o2 line c1 c2 w (by omega)

end Go.Proofs.YoediwFmt
