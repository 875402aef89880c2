/-
  (parser.SourceFilePos).String with fmt's text told: one contract.
-/
import Derived.Test.YoediwFmtString
import Derived.Stop.Texts
import Derived.Stop.Told
import Derived.Stop.FmtTextKit
namespace Go.Proofs.YoediwFmt
open Go.RowKit Go.Extern.Stop Go.Stop Go.Extern Go.Kit

def bs (l : List UInt8) : ByteArray := ⟨l.toArray⟩
theorem bs_list (l : List UInt8) : (bs l).data.toList = l := by simp [bs]
theorem bs_of {s : ByteArray} {l : List UInt8} (h : s.data.toList = l) : s = bs l := by
  subst h; cases s; simp [bs]
theorem bs_size (l : List UInt8) : (bs l).size = l.length := by simp [bs, ByteArray.size]

theorem ret_bs {s : ByteArray} {l : List UInt8} (h : s.data.toList = l) : Ending.returned (.string s) = .returned (.string (bs l)) := by rw [bs_of h]

/-- The text, as the documentation's six rows have it. -/
def posText (fn : List UInt8) (line col : Int) : List UInt8 :=
  if 0 < line then (if fn = [] then [] else fn ++ [58]) ++ Lib.itoa line ++ (if col = 0 then [] else 58 :: Lib.itoa col)
  else if fn = [] then [45] else fn

theorem parseA : (FmtText.parse [37, 100]).map FmtText.glue = some [.verb {} 100] := by rfl
theorem parseB : (FmtText.parse [58, 37, 100]).map FmtText.glue = some [.lit [58], .verb {} 100] := by rfl

theorem textA (n : Int) (hw : (Lit.int .i64 n).wf = true) : FmtText.text "fmt.Sprintf" (rdA n) = some (Lib.itoa n) := by
  have hi := FmtText.operand_int_at (sh := Edig.shape3) (k := .i64) rfl rfl n hw
  rw [rdA, FmtText.text_sprintf_glued parseA (FmtText.operands_cons hi FmtText.operands_nil)]
  simp [FmtText.render, FmtText.printArg_d _ _ hw]

theorem textB (n : Int) (hw : (Lit.int .i64 n).wf = true) : FmtText.text "fmt.Sprintf" (rdB n) = some (58 :: Lib.itoa n) := by
  have hi := FmtText.operand_int_at (sh := Edig.shape3) (k := .i64) rfl rfl n hw
  rw [rdB, FmtText.text_sprintf_glued parseB (FmtText.operands_cons hi FmtText.operands_nil)]
  simp [FmtText.render, FmtText.printArg_d _ _ hw]

theorem toldA (F : Interp) (n : Int) (hw : (Lit.int .i64 n).wf = true) : FmtStop.textOf (F.told "fmt.Sprintf" (rdA n) 0) = bs (Lib.itoa n) := by
  have hl := FmtText.itoa_length_le hw
  apply bs_of
  rw [textOf_list, told_string F (textA n hw) (by omega)]

theorem toldB (F : Interp) (n : Int) (hw : (Lit.int .i64 n).wf = true) : FmtStop.textOf (F.told "fmt.Sprintf" (rdB n) 0) = bs (58 :: Lib.itoa n) := by
  have hl := FmtText.itoa_length_le hw
  apply bs_of
  rw [textOf_list, told_string F (textB n hw) (by simp; omega)]

theorem toList_data (s : ByteArray) : s.toList = s.data.toList := ByteArray.toList_eq s

theorem itoa_ne (n : Int) : Lib.itoa n ≠ [] := by
  unfold Lib.itoa
  split
  · simp
  · intro h
    have := Lib.decDigits_length n.toNat
    rw [h] at this
    have h2 := Lib.nDigits_pos n.toNat
    simp at this; omega

theorem str_told (F : Interp) (fn : ByteArray) (off line col : Int) (w : World) (hF : F.told.answers w.tape) (hfn : fn.size ≤ 1048576)
    (wl : (Lit.int .i64 line).wf = true) (wc : (Lit.int .i64 col).wf = true) :
    Calls Edig.prog 6 #[.agg #[.string fn, .int .i64 off, .int .i64 line, .int .i64 col]] w fun e w' => e = .returned (.string (bs (posText fn.data.toList line col))) ∧ Below w.heap.size w w' := by
  have hA := toldA F line wl
  have hB := toldB F col wc
  have la := FmtText.itoa_length_le wl
  have lb := FmtText.itoa_length_le wc
  have na := itoa_ne line
  by_cases hl : 0 < line
  · by_cases hne : fn.data.toList = []
    · by_cases hc : col = 0
      · subst hc
        have hE : (fn ++ bs (Lib.itoa line)).toList.isEmpty = false := by rw [toList_data]; simp [bs, hne, na]
        refine (str_l F.told fn (bs (Lib.itoa line)) off line w hF hfn hl (by rw [toList_data, hne]; rfl) hA (by rw [bs_size]; omega) hE).mono ?_
        rintro e w' ⟨rfl, hb⟩
        exact ⟨ret_bs (by simp [bs, posText, hl, hne]), hb⟩
      · have hE : (fn ++ bs (Lib.itoa line) ++ bs (58 :: Lib.itoa col)).toList.isEmpty = false := by rw [toList_data]; simp [bs, hne, na]
        refine (str_lc F.told fn (bs (Lib.itoa line)) (bs (58 :: Lib.itoa col)) off line col w hF hfn hl (by rw [toList_data, hne]; rfl) (by simpa using hc) hA hB (by rw [bs_size]; omega) (by rw [bs_size]; simp; omega) hE).mono ?_
        rintro e w' ⟨rfl, hb⟩
        exact ⟨ret_bs (by simp [bs, posText, hl, hne, hc]), hb⟩
    · by_cases hc : col = 0
      · subst hc
        have hE : (fn ++ ⟨#[58]⟩ ++ bs (Lib.itoa line)).toList.isEmpty = false := by rw [toList_data]; simp [bs]
        refine (str_lf F.told fn (bs (Lib.itoa line)) off line w hF hfn hl (by rw [toList_data]; simpa using hne) hA (by rw [bs_size]; omega) hE).mono ?_
        rintro e w' ⟨rfl, hb⟩
        exact ⟨ret_bs (by simp [bs, posText, hl, hne]), hb⟩
      · have hE : (fn ++ ⟨#[58]⟩ ++ bs (Lib.itoa line) ++ bs (58 :: Lib.itoa col)).toList.isEmpty = false := by rw [toList_data]; simp [bs]
        refine (str_lfc F.told fn (bs (Lib.itoa line)) (bs (58 :: Lib.itoa col)) off line col w hF hfn hl (by rw [toList_data]; simpa using hne) (by simpa using hc) hA hB (by rw [bs_size]; omega) (by rw [bs_size]; simp; omega) hE).mono ?_
        rintro e w' ⟨rfl, hb⟩
        exact ⟨ret_bs (by simp [bs, posText, hl, hne, hc]), hb⟩
  · by_cases hne : fn.data.toList = []
    · refine (str_0 fn off line col w (by omega) (by rw [toList_data, hne]; rfl)).mono ?_
      rintro e w' ⟨rfl, hb⟩
      exact ⟨ret_bs (by simp [posText, hl, hne]), hb⟩
    · refine (str_f fn off line col w (by omega) (by rw [toList_data]; simpa using hne)).mono ?_
      rintro e w' ⟨rfl, hb⟩
      exact ⟨ret_bs (by simp [posText, hl, hne]), hb⟩

end Go.Proofs.YoediwFmt
