/-
  The file set in memory; (*SourceFileSet).file (function 21) and File (function 11).
-/
import Derived.Test.YoediwLook
namespace Go.Proofs.Yoediw
open Go.RowKit

/-- Every block but s that was there is as it was. -/
structure Kp (s : Nat) (w w' : World) : Prop where
  os : w'.os = w.os
  tape : w'.tape = w.tape
  output : w'.output = w.output
  size : w.heap.size ≤ w'.heap.size
  block : ∀ k, k < w.heap.size → k ≠ s → w'.heap[k]? = w.heap[k]?

theorem Kp.refl (s : Nat) (w : World) : Kp s w w := ⟨rfl, rfl, rfl, Nat.le_refl _, fun _ _ _ => rfl⟩
theorem Kp.trans {s : Nat} {a b c : World} (h : Kp s a b) (k : Kp s b c) : Kp s a c :=
  ⟨k.os.trans h.os, k.tape.trans h.tape, k.output.trans h.output, Nat.le_trans h.size k.size, fun i hi hs => (k.block i (Nat.lt_of_lt_of_le hi h.size) hs).trans (h.block i hi hs)⟩
theorem Kp.of_below {s : Nat} {w w' : World} (h : Below w.heap.size w w') : Kp s w w' := ⟨h.os, h.tape, h.output, h.size, fun k hk _ => h.block k hk⟩
theorem Kp.setCell {s : Nat} {a w : World} (h : Kp s a w) (j : Nat) (v : Value) : Kp s a (w.setCell ⟨s, j, none⟩ v) :=
  ⟨h.os, h.tape, h.output, by simpa [World.setCell] using h.size, fun k hk hs => by rw [Below.heap_setCell w _ v k hs]; exact h.block k hk hs⟩
theorem Kp.cell {s : Nat} {w w' : World} (h : Kp s w w') {b o : Nat} {v : Value} (hb : b ≠ s) (hc : w.cell? ⟨b, o, none⟩ = some v) : w'.cell? ⟨b, o, none⟩ = some v := by
  rw [World.cell?_of_block (w := w) (a := ⟨b, o, none⟩) (h.block b (lt_of_cell hc) hb)]; exact hc
/-- Where s is a block of the call's own, nothing older has turned. -/
theorem Kp.below {s B : Nat} {w w' : World} (h : Kp s w w') (hB : B ≤ s) (hw : B ≤ w.heap.size) : Below B w w' :=
  ⟨h.os, h.tape, h.output, h.size, fun k hk => h.block k (by omega) (by omega)⟩

/-- The set in block s: n files; file j in block q j, its range from base j, size j long; 'last' the cache. -/
structure FS (W : World) (s : Nat) (a : Option Addr) (cap n : Nat) (q : Nat → Nat) (base size : Nat → Int) (last : Option Nat) (B : Int) : Prop where
  cbase : W.cell? ⟨s, 0, none⟩ = some (.int .i64 B)
  cfiles : W.cell? ⟨s, 1, none⟩ = some (.slice a n cap)
  clast : W.cell? ⟨s, 2, none⟩ = some (.pointer (last.map fun i => ⟨q i, 0, none⟩))
  free : ∀ j, j < 3 → W.frozen? ⟨s, j, none⟩ = false
  row : RowV W a n (fun j => .pointer (some ⟨q j, 0, none⟩))
  rowne : ∀ b off, a = some ⟨b, off, none⟩ → b ≠ s
  fbase : ∀ j, j < n → W.cell? ⟨q j, 2, none⟩ = some (.int .i64 (base j))
  fsize : ∀ j, j < n → W.cell? ⟨q j, 3, none⟩ = some (.int .i64 (size j))
  fne : ∀ j, j < n → q j ≠ s
  lastlt : ∀ i, last = some i → i < n

/-- What leaves every block but s, and s too, leaves the set. -/
theorem FS.keep {W W' : World} {s : Nat} {a : Option Addr} {cap n : Nat} {q : Nat → Nat} {base size : Nat → Int} {last last' : Option Nat} {B : Int} (h : FS W s a cap n q base size last B) (k : Kp s W W')
    (h0 : W'.cell? ⟨s, 0, none⟩ = some (.int .i64 B)) (h1 : W'.cell? ⟨s, 1, none⟩ = some (.slice a n cap)) (h2 : W'.cell? ⟨s, 2, none⟩ = some (.pointer (last'.map fun i => ⟨q i, 0, none⟩)))
    (hf : ∀ j, j < 3 → W'.frozen? ⟨s, j, none⟩ = false) (hl : ∀ i, last' = some i → i < n) : FS W' s a cap n q base size last' B :=
  ⟨h0, h1, h2, hf, fun j hj => by
      obtain ⟨b, off, e, hc⟩ := h.row j hj
      exact ⟨b, off, e, k.cell (h.rowne b off e) hc⟩,
    h.rowne, fun j hj => k.cell (h.fne j hj) (h.fbase j hj), fun j hj => k.cell (h.fne j hj) (h.fsize j hj), h.fne, hl⟩

theorem FS.slt {W : World} {s : Nat} {a : Option Addr} {cap n : Nat} {q : Nat → Nat} {base size : Nat → Int} {last : Option Nat} {B : Int} (h : FS W s a cap n q base size last B) : s < W.heap.size := lt_of_cell h.cbase

theorem FS.below {W W' : World} {s : Nat} {a : Option Addr} {cap n : Nat} {q : Nat → Nat} {base size : Nat → Int} {last : Option Nat} {B : Int} (h : FS W s a cap n q base size last B) (k : Below W.heap.size W W') : FS W' s a cap n q base size last B := by
  have hs := h.slt
  refine h.keep (Kp.of_below k) ?_ ?_ ?_ ?_ h.lastlt
  · rw [k.cell (p := ⟨s, 0, none⟩) hs]; exact h.cbase
  · rw [k.cell (p := ⟨s, 1, none⟩) hs]; exact h.cfiles
  · rw [k.cell (p := ⟨s, 2, none⟩) hs]; exact h.clast
  · intro j hj; rw [k.frozen (p := ⟨s, j, none⟩) hs]; exact h.free j hj

/-- The store of the cache. -/
theorem FS.put {W : World} {s : Nat} {a : Option Addr} {cap n : Nat} {q : Nat → Nat} {base size : Nat → Int} {last : Option Nat} {B : Int} (h : FS W s a cap n q base size last B) {i : Nat} (hi : i < n) :
    FS (W.setCell ⟨s, 2, none⟩ (.pointer (some ⟨q i, 0, none⟩))) s a cap n q base size (some i) B := by
  refine h.keep ((Kp.refl s W).setCell 2 _) ?_ ?_ ?_ ?_ (fun j hj => by injection hj with hj; omega)
  · rw [World.cell?_setCell_other _ _ _ _ (by simp)]; exact h.cbase
  · rw [World.cell?_setCell_other _ _ _ _ (by simp)]; exact h.cfiles
  · exact World.cell?_setCell_same _ _ _ h.clast
  · intro j hj; rw [World.frozen?_setCell]; exact h.free j hj

/-- What a look-up leaves. -/
structure Looked (w w' : World) (s : Nat) (a : Option Addr) (cap n : Nat) (q : Nat → Nat) (base size : Nat → Int) (B : Int) : Prop where
  kp : Kp s w w'
  fs : ∃ last, FS w' s a cap n q base size last B

/-- The world behind the cache's test. -/
theorem looked_drew {w : World} {s : Nat} {a : Option Addr} {cap n : Nat} {q : Nat → Nat} {base size : Nat → Int} {last : Option Nat} {B : Int} (h : FS w s a cap n q base size last B) (m : Nat) : Looked w (w.drewN m) s a cap n q base size B :=
  ⟨Kp.of_below (below_drewN (Below.refl _ _) m), last, h.below (below_drewN (Below.refl _ _) m)⟩

set_option maxHeartbeats 400000 in
/-- The cache answers. -/
theorem file_cached (s : Nat) (a : Option Addr) (cap n : Nat) (q : Nat → Nat) (base size : Nat → Int) (i : Nat) (B p : Int) (w : World) (hfs : FS w s a cap n q base size (some i) B)
    (ho : Ord n base size) (hx : base i + size i ≤ 9223372036854775807) (hx0 : 1 ≤ base i) (h1 : base i ≤ p) (h2 : p ≤ base i + size i) :
    Calls Edig.prog 21 #[.pointer (some ⟨s, 0, none⟩), .int .i64 p] w fun e w' => e = .returned (.pointer (some ⟨q i, 0, none⟩)) ∧ Looked w w' s a cap n q base size B := by
  have hi := hfs.lastlt i rfl
  have c2 : w.cell? ⟨s, 2, none⟩ = some (.pointer (some ⟨q i, 0, none⟩)) := hfs.clast
  have cb := hfs.fbase i hi
  have cs := hfs.fsize i hi
  have hz := ho.1 i hi
  have HF := hideIt hfs
  clear hfs ho
  have d1 : decide (base i ≤ p) = true := by simpa using h1
  have d2 : decide (p ≤ base i + size i) = true := by simpa using h2
  generalize base i = bi at *
  generalize size i = si at *
  generalize q i = qi at *
  go_enter Edig.func21, Edig.ntmps21
  go_wp2
  go_quiet (fail)
  go_wp2
  go_ret
  exact ⟨rfl, looked_drew HF.out _⟩

set_option maxHeartbeats 400000 in
/-- The cache is empty. -/
theorem file_none (s : Nat) (a : Option Addr) (cap n : Nat) (q : Nat → Nat) (base size : Nat → Int) (B p : Int) (w : World) (hfs : FS w s a cap n q base size none B)
    (ho : Ord n base size) (hn : n ≤ 1048576) (hx : ∀ j, j < n → 1 ≤ base j ∧ base j + size j ≤ 9223372036854775807) :
    Calls Edig.prog 21 #[.pointer (some ⟨s, 0, none⟩), .int .i64 p] w fun e w' => e = .returned (.pointer ((look base size p n).map fun i => ⟨q i, 0, none⟩)) ∧ Looked w w' s a cap n q base size B := by
  have c2 : w.cell? ⟨s, 2, none⟩ = some (.pointer none) := hfs.clast
  have c1 := hfs.cfiles
  have HF := hideIt hfs
  have HO := hideIt ho
  have HX := hideIt hx
  clear hfs ho hx
  generalize hres : look base size p n = res
  have HL := hideIt hres
  clear hres
  go_enter Edig.func21, Edig.ntmps21
  go_wp2
  go_quiet (fail)
  go_wp2_with fail
  refine (searchFiles_any a n cap p q base _ hn (by exact (HF.out.below (below_drewN (Below.refl _ _) nq)).row) (by exact (HF.out.below (below_drewN (Below.refl _ _) nq)).fbase) HO.out.mono).mono ?_
  rintro e w1 ⟨r, rfl, hcut, hb⟩
  have hf1 := hideIt ((HF.out.below (below_drewN (Below.refl _ _) nq)).below hb)
  have hk1 := hideIt ((Kp.of_below (s := s) (below_drewN (Below.refl _ w) nq)).trans (Kp.of_below hb))
  have HC := hideIt hcut
  clear hb hcut HF c1 c2
  cases r with
  | zero =>
    go_wp2
    go_ret
    have e := HL.out
    rw [look_cut0 HC.out] at e
    subst e
    exact ⟨rfl, hk1.out, _, hf1.out⟩
  | succ m =>
    have hm : m < n := HC.out.1
    have G := hideIt (look_cut HO.out HC.out)
    obtain ⟨b, off, e, hc⟩ := hf1.out.row m hm
    subst e
    have cf := hf1.out.cfiles
    have cb := hf1.out.fbase m hm
    have cs := hf1.out.fsize m hm
    have cl := hf1.out.clast
    have fr := hf1.out.free 2 (by omega)
    have hz := HO.out.1 m hm
    obtain ⟨x1, x2⟩ := HX.out m hm
    by_cases hp : p ≤ base m + size m
    · have dp : decide (p ≤ base m + size m) = true := by simpa using hp
      go_wp2
      go_quiet (fail)
      go_wp2
      go_ret
      have e := HL.out
      rw [G.out.2, if_pos hp] at e
      subst e
      exact ⟨rfl, (hk1.out.trans (Kp.of_below (below_drewN (Below.refl _ _) _))).setCell 2 _, _, (hf1.out.below (below_drewN (Below.refl _ _) _)).put hm⟩
    · have dp : decide (p ≤ base m + size m) = false := by simpa using hp
      go_wp2
      go_quiet (fail)
      go_wp2
      go_ret
      have e := HL.out
      rw [G.out.2, if_neg (by omega)] at e
      subst e
      exact ⟨rfl, hk1.out.trans (Kp.of_below (below_drewN (Below.refl _ _) _)), _, hf1.out.below (below_drewN (Below.refl _ _) _)⟩

set_option maxHeartbeats 400000 in
/-- The cached file begins behind p. -/
theorem file_low (s : Nat) (a : Option Addr) (cap n : Nat) (q : Nat → Nat) (base size : Nat → Int) (i : Nat) (B p : Int) (w : World) (hfs : FS w s a cap n q base size (some i) B)
    (ho : Ord n base size) (hn : n ≤ 1048576) (hx : ∀ j, j < n → 1 ≤ base j ∧ base j + size j ≤ 9223372036854775807) (h1 : p < base i) :
    Calls Edig.prog 21 #[.pointer (some ⟨s, 0, none⟩), .int .i64 p] w fun e w' => e = .returned (.pointer ((look base size p n).map fun i => ⟨q i, 0, none⟩)) ∧ Looked w w' s a cap n q base size B := by
  have hi := hfs.lastlt i rfl
  have c2 : w.cell? ⟨s, 2, none⟩ = some (.pointer (some ⟨q i, 0, none⟩)) := hfs.clast
  have ib := hfs.fbase i hi
  have is := hfs.fsize i hi
  have iz := ho.1 i hi
  obtain ⟨i1, i2⟩ := hx i hi
  have d1 : decide (base i ≤ p) = false := by simpa using h1
  have c1 := hfs.cfiles
  have HF := hideIt hfs
  have HO := hideIt ho
  have HX := hideIt hx
  clear hfs ho hx
  generalize hres : look base size p n = res
  have HL := hideIt hres
  clear hres
  go_enter Edig.func21, Edig.ntmps21
  go_wp2
  go_quiet (fail)
  go_wp2_with fail
  refine (searchFiles_any a n cap p q base _ hn (by exact (HF.out.below (below_drewN (Below.refl _ _) nq)).row) (by exact (HF.out.below (below_drewN (Below.refl _ _) nq)).fbase) HO.out.mono).mono ?_
  rintro e w1 ⟨r, rfl, hcut, hb⟩
  have hf1 := hideIt ((HF.out.below (below_drewN (Below.refl _ _) nq)).below hb)
  have hk1 := hideIt ((Kp.of_below (s := s) (below_drewN (Below.refl _ w) nq)).trans (Kp.of_below hb))
  have HC := hideIt hcut
  clear hb hcut HF c1 c2 ib is iz i1 i2 hi d1 h1
  cases r with
  | zero =>
    go_wp2
    go_ret
    have e := HL.out
    rw [look_cut0 HC.out] at e
    subst e
    exact ⟨rfl, hk1.out, _, hf1.out⟩
  | succ m =>
    have hm : m < n := HC.out.1
    have G := hideIt (look_cut HO.out HC.out)
    obtain ⟨b, off, e, hc⟩ := hf1.out.row m hm
    subst e
    have cf := hf1.out.cfiles
    have cb := hf1.out.fbase m hm
    have cs := hf1.out.fsize m hm
    have cl := hf1.out.clast
    have fr := hf1.out.free 2 (by omega)
    have hz := HO.out.1 m hm
    obtain ⟨x1, x2⟩ := HX.out m hm
    by_cases hp : p ≤ base m + size m
    · have dp : decide (p ≤ base m + size m) = true := by simpa using hp
      go_wp2
      go_quiet (fail)
      go_wp2
      go_ret
      have e := HL.out
      rw [G.out.2, if_pos hp] at e
      subst e
      exact ⟨rfl, (hk1.out.trans (Kp.of_below (below_drewN (Below.refl _ _) _))).setCell 2 _, _, (hf1.out.below (below_drewN (Below.refl _ _) _)).put hm⟩
    · have dp : decide (p ≤ base m + size m) = false := by simpa using hp
      go_wp2
      go_quiet (fail)
      go_wp2
      go_ret
      have e := HL.out
      rw [G.out.2, if_neg (by omega)] at e
      subst e
      exact ⟨rfl, hk1.out.trans (Kp.of_below (below_drewN (Below.refl _ _) _)), _, hf1.out.below (below_drewN (Below.refl _ _) _)⟩

set_option maxHeartbeats 400000 in
/-- The cached file ends ahead of p. -/
theorem file_high (s : Nat) (a : Option Addr) (cap n : Nat) (q : Nat → Nat) (base size : Nat → Int) (i : Nat) (B p : Int) (w : World) (hfs : FS w s a cap n q base size (some i) B)
    (ho : Ord n base size) (hn : n ≤ 1048576) (hx : ∀ j, j < n → 1 ≤ base j ∧ base j + size j ≤ 9223372036854775807) (h1 : base i ≤ p) (h2 : base i + size i < p) :
    Calls Edig.prog 21 #[.pointer (some ⟨s, 0, none⟩), .int .i64 p] w fun e w' => e = .returned (.pointer ((look base size p n).map fun i => ⟨q i, 0, none⟩)) ∧ Looked w w' s a cap n q base size B := by
  have hi := hfs.lastlt i rfl
  have c2 : w.cell? ⟨s, 2, none⟩ = some (.pointer (some ⟨q i, 0, none⟩)) := hfs.clast
  have ib := hfs.fbase i hi
  have is := hfs.fsize i hi
  have iz := ho.1 i hi
  obtain ⟨i1, i2⟩ := hx i hi
  have d1 : decide (base i ≤ p) = true := by simpa using h1
  have d2 : decide (p ≤ base i + size i) = false := by simpa using h2
  have c1 := hfs.cfiles
  have HF := hideIt hfs
  have HO := hideIt ho
  have HX := hideIt hx
  clear hfs ho hx
  generalize hres : look base size p n = res
  have HL := hideIt hres
  clear hres
  go_enter Edig.func21, Edig.ntmps21
  go_wp2
  go_quiet (fail)
  go_wp2_with fail
  refine (searchFiles_any a n cap p q base _ hn (by exact (HF.out.below (below_drewN (Below.refl _ _) nq)).row) (by exact (HF.out.below (below_drewN (Below.refl _ _) nq)).fbase) HO.out.mono).mono ?_
  rintro e w1 ⟨r, rfl, hcut, hb⟩
  have hf1 := hideIt ((HF.out.below (below_drewN (Below.refl _ _) nq)).below hb)
  have hk1 := hideIt ((Kp.of_below (s := s) (below_drewN (Below.refl _ w) nq)).trans (Kp.of_below hb))
  have HC := hideIt hcut
  clear hb hcut HF c1 c2 ib is iz i1 i2 hi d1 h1 d2 h2
  cases r with
  | zero =>
    go_wp2
    go_ret
    have e := HL.out
    rw [look_cut0 HC.out] at e
    subst e
    exact ⟨rfl, hk1.out, _, hf1.out⟩
  | succ m =>
    have hm : m < n := HC.out.1
    have G := hideIt (look_cut HO.out HC.out)
    obtain ⟨b, off, e, hc⟩ := hf1.out.row m hm
    subst e
    have cf := hf1.out.cfiles
    have cb := hf1.out.fbase m hm
    have cs := hf1.out.fsize m hm
    have cl := hf1.out.clast
    have fr := hf1.out.free 2 (by omega)
    have hz := HO.out.1 m hm
    obtain ⟨x1, x2⟩ := HX.out m hm
    by_cases hp : p ≤ base m + size m
    · have dp : decide (p ≤ base m + size m) = true := by simpa using hp
      go_wp2
      go_quiet (fail)
      go_wp2
      go_ret
      have e := HL.out
      rw [G.out.2, if_pos hp] at e
      subst e
      exact ⟨rfl, (hk1.out.trans (Kp.of_below (below_drewN (Below.refl _ _) _))).setCell 2 _, _, (hf1.out.below (below_drewN (Below.refl _ _) _)).put hm⟩
    · have dp : decide (p ≤ base m + size m) = false := by simpa using hp
      go_wp2
      go_quiet (fail)
      go_wp2
      go_ret
      have e := HL.out
      rw [G.out.2, if_neg (by omega)] at e
      subst e
      exact ⟨rfl, hk1.out.trans (Kp.of_below (below_drewN (Below.refl _ _) _)), _, hf1.out.below (below_drewN (Below.refl _ _) _)⟩

/-- What a set's ranges are like: up, disjoint, from 1 on, within an int. -/
structure Good (n : Nat) (base size : Nat → Int) : Prop where
  ord : Ord n base size
  few : n ≤ 1048576
  fit : ∀ j, j < n → 1 ≤ base j ∧ base j + size j ≤ 9223372036854775807

theorem file_any (s : Nat) (a : Option Addr) (cap n : Nat) (q : Nat → Nat) (base size : Nat → Int) (last : Option Nat) (B p : Int) (w : World) (hfs : FS w s a cap n q base size last B) (hg : Good n base size) :
    Calls Edig.prog 21 #[.pointer (some ⟨s, 0, none⟩), .int .i64 p] w fun e w' => e = .returned (.pointer ((look base size p n).map fun i => ⟨q i, 0, none⟩)) ∧ Looked w w' s a cap n q base size B := by
  cases last with
  | none => exact file_none s a cap n q base size B p w hfs hg.ord hg.few hg.fit
  | some i =>
    have hi := hfs.lastlt i rfl
    by_cases h1 : base i ≤ p
    · by_cases h2 : p ≤ base i + size i
      · have e : look base size p n = some i := hg.ord.look hi ⟨h1, h2⟩
        rw [e]
        exact file_cached s a cap n q base size i B p w hfs hg.ord (hg.fit i hi).2 (hg.fit i hi).1 h1 h2
      · exact file_high s a cap n q base size i B p w hfs hg.ord hg.few hg.fit h1 (by omega)
    · exact file_low s a cap n q base size i B p w hfs hg.ord hg.few hg.fit (by omega)

theorem Good.zero {n : Nat} {base size : Nat → Int} (h : Good n base size) : look base size 0 n = none :=
  look_no fun i hi hin => by
    have := (h.fit i hi).1
    have := hin.1
    omega

set_option maxHeartbeats 400000 in
/-- File(p). -/
theorem File_any (s : Nat) (a : Option Addr) (cap n : Nat) (q : Nat → Nat) (base size : Nat → Int) (last : Option Nat) (B p : Int) (w : World) (hfs : FS w s a cap n q base size last B) (hg : Good n base size) :
    Calls Edig.prog 11 #[.pointer (some ⟨s, 0, none⟩), .int .i64 p] w fun e w' => e = .returned (.pointer ((look base size p n).map fun i => ⟨q i, 0, none⟩)) ∧ Looked w w' s a cap n q base size B := by
  have HC := hideIt (file_any s a cap n q base size last B p w hfs hg)
  by_cases h0 : p = 0
  · subst h0
    rw [hg.zero]
    have HF := hideIt hfs
    clear hfs hg HC
    go_enter Edig.func11, Edig.ntmps11
    go_wp2
    go_ret
    exact ⟨rfl, Kp.refl _ _, _, HF.out⟩
  · have hp : (p == 0) = false := by simpa using h0
    clear hfs hg h0
    go_enter Edig.func11, Edig.ntmps11
    go_wp2_with fail
    refine HC.out.mono ?_
    rintro e w' ⟨rfl, hl⟩
    have HL := hideIt hl
    clear hl
    go_wp2
    go_ret
    exact ⟨rfl, HL.out⟩

end Go.Proofs.Yoediw
