/-
  The walk of FnNewFileSetAnswersNoFile (function 3).
-/
import Derived.Test.YoediwArgs
namespace Go.Proofs.Yoediw
open Go.RowKit

set_option maxHeartbeats 400000 in
theorem noFile_long (a : Option Addr) (n cap : Nat) (w : World) (hm : n ≤ maxLen) (hn : 131072 < n) :
    Calls Edig.prog 3 #[.slice a n cap] w fun e w' => e = .returned (.bool true) ∧ Below w.heap.size w w' := by
  unfold maxLen at hm
  go_enter Edig.func3, Edig.ntmps3
  go_wp2
  all_goals
    go_ret
    exact ⟨rfl, Below.refl _ _⟩

set_option maxHeartbeats 400000 in
theorem noFile_short (a : Option Addr) (n cap : Nat) (z : Nat → Int) (w : World) (h : IntArg w a n cap z) (hn : n ≤ 131072) :
    Calls Edig.prog 3 #[.slice a n cap] w fun e w' => e = .returned (.bool true) ∧ Below w.heap.size w w' := by
  have HA := hideIt h
  clear h
  go_enter Edig.func3, Edig.ntmps3
  go_wp2_with (go_at_call 8; go_in)
  refine (clone_any a n cap z _ (by omega) HA.out.nil HA.out.row).mono ?_
  rintro e w1 ⟨a', cap', rfl, hr, hb⟩
  have HR := hideIt hr
  have HB := hideIt hb
  clear hr hb HA
  go_wp2_with (go_at_call 10; refine (new_any _).mono ?_; rintro e w2 ⟨rfl, rfl⟩)
  have HF := hideIt (FS.new w1 (fun _ => 0) (fun _ => 0) (fun _ => 0))
  have HR2 := hideIt (HR.out.bound ((Below.refl _ w1).alloc (Nat.le_refl _) (.cells #[.int .i64 1, .slice none 0 0, .pointer none] 30)))
  have hs := HB.out.size
  have HB2 := hideIt (bel2 HB.out ((Below.refl _ w1).alloc (Nat.le_refl _) (.cells #[.int .i64 1, .slice none 0 0, .pointer none] 30)))
  have hsz : w1.heap.size < (w1.alloc (.cells #[.int .i64 1, .slice none 0 0, .pointer none] 30)).heap.size := by simp
  clear HB HR
  generalize hw2 : w1.alloc (.cells #[.int .i64 1, .slice none 0 0, .pointer none] 30) = w2 at *
  clear hw2
  generalize w1.heap.size = s at *
  clear w1
  go_loopw [4] (fun i wr => ∃ k : Nat, k ≤ n ∧ i = .int .i64 (k : Int) ∧ Kp s w2 wr ∧ FS wr s none 0 0 (fun _ => 0) (fun _ => 0) (fun _ => 0) none 1) (fun i _ => n - (intOf i).toNat)
  case atStart => exact ⟨0, Nat.zero_le _, rfl, Kp.refl _ _, HF.out⟩
  case round =>
    obtain ⟨k, hk, rfl, hkp, hfs⟩ := hrel
    have HK := hideIt hkp
    have HS := hideIt hfs
    clear hkp hfs HF
    by_cases hlt : k < n
    · obtain ⟨b, off, e, hbs, hc⟩ := HR2.out k hlt
      subst e
      have hc' := HK.out.cell (by omega) hc
      clear hc
      go_wp2_with fail
      refine (File_empty s _ _ _ _ _ _ _ HS.out).mono ?_
      rintro e w' ⟨rfl, hk', hf'⟩
      have H1 := hideIt (HK.out.trans hk')
      have H2 := hideIt hf'
      clear hk' hf' HK HS
      go_wp2
      go_roundw
      case rel => exact ⟨k + 1, by omega, by go_num, H1.out, H2.out⟩
      case measure => simp [intOf]; omega
    · have c0 := HS.out.cbase
      have c1 := HS.out.cfiles
      have c2 : wr.cell? ⟨s, 2, none⟩ = some (.pointer none) := HS.out.clast
      have HB3 := hideIt (HB2.out.trans (HK.out.below hs (by omega)))
      clear HS HK HB2 HR2
      go_wp2
      go_ret
      exact ⟨rfl, HB3.out⟩

theorem noFile_any (a : Option Addr) (n cap : Nat) (z : Nat → Int) (w : World) (h : IntArg w a n cap z) :
    Calls Edig.prog 3 #[.slice a n cap] w fun e w' => e = .returned (.bool true) ∧ Below w.heap.size w w' := by
  by_cases hn : n ≤ 131072
  · exact noFile_short a n cap z w h hn
  · exact noFile_long a n cap w h.max (by omega)

end Go.Proofs.Yoediw
