/-
  The walk of FnNewFileSetFirstFileAndIndependence (function 4).
-/
import Derived.Test.YoediwPtr
namespace Go.Proofs.Yoediw
open Go.RowKit

set_option maxHeartbeats 400000 in
theorem first_out (name : ByteArray) (size : Int) (w : World) (h : 1048576 < name.size ∨ size < 0 ∨ 9223372036854775805 < size) :
    Calls Edig.prog 4 #[.string name, .int .i64 size] w fun e w' => e = .returned (.bool true) ∧ Below w.heap.size w w' := by
  by_cases h1 : 1048576 < name.size
  · clear h
    go_enter Edig.func4, Edig.ntmps4
    go_wp2
    go_ret
    exact ⟨rfl, Below.refl _ _⟩
  · by_cases h2 : size < 0
    · clear h
      go_enter Edig.func4, Edig.ntmps4
      go_wp2
      go_ret
      exact ⟨rfl, Below.refl _ _⟩
    · have h3 : 9223372036854775805 < size := by omega
      clear h
      go_enter Edig.func4, Edig.ntmps4
      go_wp2
      go_ret
      exact ⟨rfl, Below.refl _ _⟩

theorem good1 {size : Int} (h2 : 0 ≤ size) (h3 : size ≤ 9223372036854775805) : Good 1 (fun _ => 1) (fun _ => size) :=
  ⟨⟨fun _ _ => h2, fun i j hij hj => by omega⟩, by decide, fun _ _ => ⟨Int.le_refl _, by omega⟩⟩

/-- File(p) of a set of one file: p in its range. -/
theorem File_yes {s : Nat} {a : Option Addr} {cap : Nat} {q : Nat → Nat} {size : Int} {last : Option Nat} {B p : Int} {w : World} {Q : Nat} (hq : q 0 = Q) (hfs : FS w s a cap 1 q (fun _ => 1) (fun _ => size) last B)
    (h2 : 0 ≤ size) (h3 : size ≤ 9223372036854775805) (p1 : 1 ≤ p) (p2 : p ≤ 1 + size) :
    Calls Edig.prog 11 #[.pointer (some ⟨s, 0, none⟩), .int .i64 p] w fun e w' => e = .returned (.pointer (some ⟨Q, 0, none⟩)) ∧ Looked w w' s a cap 1 q (fun _ => 1) (fun _ => size) B := by
  refine (File_any s a cap 1 q _ _ last B p w hfs (good1 h2 h3)).mono ?_
  rintro e w' ⟨rfl, hl⟩
  have e : look (fun _ => 1) (fun _ => size) p 1 = some 0 := if_pos ⟨p1, p2⟩
  rw [e]
  subst hq
  exact ⟨rfl, hl⟩

/-- File(p) of a set of one file: p outside. -/
theorem File_no {s : Nat} {a : Option Addr} {cap : Nat} {q : Nat → Nat} {size : Int} {last : Option Nat} {B p : Int} {w : World} (hfs : FS w s a cap 1 q (fun _ => 1) (fun _ => size) last B)
    (h2 : 0 ≤ size) (h3 : size ≤ 9223372036854775805) (hp : p < 1 ∨ 1 + size < p) :
    Calls Edig.prog 11 #[.pointer (some ⟨s, 0, none⟩), .int .i64 p] w fun e w' => e = .returned (.pointer none) ∧ Looked w w' s a cap 1 q (fun _ => 1) (fun _ => size) B := by
  refine (File_any s a cap 1 q _ _ last B p w hfs (good1 h2 h3)).mono ?_
  rintro e w' ⟨rfl, hl⟩
  have e : look (fun _ => 1) (fun _ => size) p 1 = none := if_neg (by show ¬ (1 ≤ p ∧ p ≤ 1 + size); omega)
  rw [e]
  exact ⟨rfl, hl⟩

/-- Two sets: the first with one file, the second empty. -/
structure Two (w w' : World) (s1 s2 : Nat) (a : Option Addr) (cap Q : Nat) (q : Nat → Nat) (size : Int) : Prop where
  one : ∃ last, FS w' s1 a cap 1 q (fun _ => 1) (fun _ => size) last (size + 2)
  two : FS w' s2 none 0 0 q (fun _ => 1) (fun _ => size) none 1
  q0 : q 0 = Q
  ne : s2 ≠ s1
  bel : Below w.heap.size w w'
  lo1 : w.heap.size ≤ s1
  lo2 : w.heap.size ≤ s2

theorem Two.look1 {w w' w'' : World} {s1 s2 : Nat} {a : Option Addr} {cap Q : Nat} {q : Nat → Nat} {size : Int} (h : Two w w' s1 s2 a cap Q q size) (k : Looked w' w'' s1 a cap 1 q (fun _ => 1) (fun _ => size) (size + 2)) : Two w w'' s1 s2 a cap Q q size :=
  ⟨k.fs, h.two.other0 k.kp h.ne, h.q0, h.ne, h.bel.trans (k.kp.below h.lo1 h.bel.size), h.lo1, h.lo2⟩

theorem first_two (w w3 : World) (name : ByteArray) (size : Int) (v' : Value) (Q L : Nat)
    (hs : HS w3 (w.heap.size + 2) w.heap.size v' (0 + 1) (upd (fun _ => 0) 0 Q) (upd (fun _ => 0) 0 L) (fun _ => name) (fun _ => 1) (fun _ => size) (some 0) (1 + (size + 1)))
    (hk : KpR (w.heap.size + 2) w.heap.size ((w.alloc (.cells #[.int .i64 1, .slice none 0 0, .pointer none] 30)).alloc (.cells #[.int .i64 1, .slice none 0 0, .pointer none] 30)) w3) :
    (∃ a cap, Two w w3 w.heap.size (w.heap.size + 1) a cap Q (upd (fun _ => 0) 0 Q) size) ∧ w3.cell? ⟨Q, 1, none⟩ = some (.string name) ∧ w3.cell? ⟨Q, 2, none⟩ = some (.int .i64 1) ∧ w3.cell? ⟨Q, 3, none⟩ = some (.int .i64 size) ∧ w3.cell? ⟨w.heap.size, 0, none⟩ = some (.int .i64 (size + 2)) := by
  have eB : (1 : Int) + (size + 1) = size + 2 := by omega
  rw [eB] at hs
  obtain ⟨a, cap, _, hfs⟩ := hs.fs
  have hfile := hs.file 0 (by omega)
  rw [upd_at, upd_at] at hfile
  have h2 : w3.heap[w.heap.size + 1]? = some (setObj 1 (.slice none 0 0) none) := by rw [hk.block _ (by omega) (by omega)]; exact second_set w
  refine ⟨⟨a, cap, ⟨_, hfs⟩, ?_, upd_at _ _ _, by omega, ?_, Nat.le_refl _, by omega⟩, cell_of_obj hfile 1, cell_of_obj hfile 2, cell_of_obj hfile 3, cell_of_obj hs.set 0⟩
  · obtain ⟨a2, cap2, e2, f2⟩ := (HS.new (R := w.heap.size + 2) h2 (by omega) hs.rW (upd (fun _ => 0) 0 Q) (fun _ => 0) (fun _ => name) (fun _ => 1) (fun _ => size)).fs
    cases e2
    exact f2
  · exact ((((Below.refl _ w).alloc (Nat.le_refl _) _).alloc (by simp) _)).trans (hk.below (Nat.le_refl _) (by omega))

set_option maxHeartbeats 800000 in
theorem first_in (name : ByteArray) (size : Int) (w : World) (h1 : name.size ≤ 1048576) (h2 : 0 ≤ size) (h3 : size ≤ 9223372036854775805) :
    Calls Edig.prog 4 #[.string name, .int .i64 size] w fun e w' => e = .returned (.bool true) ∧ Below w.heap.size w w' := by
  have hse := two_new w
  have hns := neq_self
  go_enter Edig.func4, Edig.ntmps4
  go_wp2_with (first | (go_at_call 12; go_in) | (go_at_call 10; refine (new_any _).mono ?_; rintro e w2 ⟨rfl, rfl⟩))
  clear hse
  refine (add_neg _ (w.heap.size + 2) w.heap.size (.slice none 0 0) 0 (fun _ => 0) (fun _ => 0) (fun _ => name) (fun _ => 1) (fun _ => size) none 1 (HS.new (first_set w) (by omega) (by simp) _ _ _ _ _) (-1) (by decide) rfl (by decide) h2 (by omega) (by omega)).mono ?_
  rintro e w3 ⟨v', Q, L, rfl, hs, hk⟩
  obtain ⟨⟨a, cap, ht⟩, d1, d2, d3, d0⟩ := first_two w w3 name size v' Q L hs hk
  have HT := hideIt ht
  clear hs hk ht
  generalize upd (fun _ => 0) 0 Q = q at *
  unfold ptr
  -- File(0)
  go_wp2_with fail
  clear d0 d1 d2 d3
  obtain ⟨last, hf⟩ := HT.out.one
  refine (File_no hf h2 h3 (by omega)).mono ?_
  rintro e w4 ⟨rfl, hl⟩
  replace HT := hideIt (HT.out.look1 hl)
  clear hf hl
  go_wp2_with fail
  obtain ⟨last1, hf⟩ := HT.out.one
  refine (File_yes HT.out.q0 hf h2 h3 (by omega) (by omega)).mono ?_
  rintro e w5 ⟨rfl, hl⟩
  replace HT := hideIt (HT.out.look1 hl)
  clear hf hl
  go_wp2_with fail
  obtain ⟨last2, hf⟩ := HT.out.one
  refine (File_yes HT.out.q0 hf h2 h3 (by omega) (by omega)).mono ?_
  rintro e w6 ⟨rfl, hl⟩
  replace HT := hideIt (HT.out.look1 hl)
  clear hf hl
  go_wp2_with fail
  obtain ⟨last3, hf⟩ := HT.out.one
  refine (File_no hf h2 h3 (by omega)).mono ?_
  rintro e w7 ⟨rfl, hl⟩
  replace HT := hideIt (HT.out.look1 hl)
  clear hf hl
  have HS := hideIt (And.intro HT.out.two HT.out.bel)
  clear HT
  have c0 := HS.out.1.cbase
  have c1 := HS.out.1.cfiles
  have c2 : w7.cell? ⟨w.heap.size + 1, 2, none⟩ = some (.pointer none) := HS.out.1.clast
  go_wp2_with fail
  clear c0 c1 c2
  refine (File_empty (w.heap.size + 1) _ _ _ _ _ _ _ HS.out.1).mono ?_
  rintro e w8 ⟨rfl, hk, hf⟩
  replace HS := hideIt (And.intro hf (HS.out.2.trans (hk.below (B := w.heap.size) (by omega) HS.out.2.size)))
  clear hk hf
  go_wp2_with fail
  refine (File_empty (w.heap.size + 1) _ _ _ _ _ _ _ HS.out.1).mono ?_
  rintro e w9 ⟨rfl, hk, hf⟩
  replace HS := hideIt (And.intro hf (HS.out.2.trans (hk.below (B := w.heap.size) (by omega) HS.out.2.size)))
  clear hk hf
  go_wp2_with fail
  refine (File_empty (w.heap.size + 1) _ _ _ _ _ _ _ HS.out.1).mono ?_
  rintro e w10 ⟨rfl, hk, hf⟩
  replace HS := hideIt (And.intro hf (HS.out.2.trans (hk.below (B := w.heap.size) (by omega) HS.out.2.size)))
  clear hk hf
  go_wp2_with fail
  refine (File_empty (w.heap.size + 1) _ _ _ _ _ _ _ HS.out.1).mono ?_
  rintro e w11 ⟨rfl, hk, hf⟩
  replace HS := hideIt (And.intro hf (HS.out.2.trans (hk.below (B := w.heap.size) (by omega) HS.out.2.size)))
  clear hk hf
  have c0 := HS.out.1.cbase
  have c1 := HS.out.1.cfiles
  go_wp2
  go_ret
  exact ⟨rfl, HS.out.2⟩

theorem first_any (name : ByteArray) (size : Int) (w : World) :
    Calls Edig.prog 4 #[.string name, .int .i64 size] w fun e w' => e = .returned (.bool true) ∧ Below w.heap.size w w' := by
  by_cases h : 1048576 < name.size ∨ size < 0 ∨ 9223372036854775805 < size
  · exact first_out name size w h
  · exact first_in name size w (by omega) (by omega) (by omega)

end Go.Proofs.Yoediw
