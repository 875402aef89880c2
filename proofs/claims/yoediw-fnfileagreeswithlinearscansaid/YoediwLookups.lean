/-
  The phase of look-ups: the set is asked, other blocks are written.
-/
import Derived.Test.YoediwScript
namespace Go.Proofs.Yoediw
open Go.RowKit

theorem Looked.trans {w0 w1 w2 : World} {s : Nat} {a : Option Addr} {cap n : Nat} {q : Nat → Nat} {base size : Nat → Int} {B : Int} (h : Looked w0 w1 s a cap n q base size B) (k : Looked w1 w2 s a cap n q base size B) : Looked w0 w2 s a cap n q base size B :=
  ⟨h.kp.trans k.kp, k.fs⟩

theorem Looked.draws {w0 w1 : World} {s : Nat} {a : Option Addr} {cap n : Nat} {q : Nat → Nat} {base size : Nat → Int} {B : Int} (h : Looked w0 w1 s a cap n q base size B) (d : Nat) : Looked w0 (w1.drewN d) s a cap n q base size B := by
  obtain ⟨last, hf⟩ := h.fs
  exact ⟨h.kp.trans (Kp.of_below (below_drewN (Below.refl _ _) d)), last, hf.below (below_drewN (Below.refl _ _) d)⟩

/-- What is answered for p. -/
def ans (q : Nat → Nat) (base size : Nat → Int) (n : Nat) (p : Int) : Option Addr := (look base size p n).map fun i => ⟨q i, 0, none⟩

/-- File(p) in the phase of look-ups. -/
theorem File_look {w0 w : World} {s : Nat} {a : Option Addr} {cap n : Nat} {q : Nat → Nat} {base size : Nat → Int} {B : Int} (h : Looked w0 w s a cap n q base size B) (hg : Good n base size) (p : Int) :
    Calls Edig.prog 11 #[.pointer (some ⟨s, 0, none⟩), .int .i64 p] w fun e w' => e = .returned (.pointer (ans q base size n p)) ∧ Looked w0 w' s a cap n q base size B := by
  obtain ⟨last, hf⟩ := h.fs
  refine (File_any s a cap n q base size last B p w hf hg).mono ?_
  rintro e w' ⟨rfl, hl⟩
  exact ⟨rfl, h.trans hl⟩

/-- The set's own blocks lie below G. -/
structure Bnd (a : Option Addr) (n G s : Nat) (q : Nat → Nat) : Prop where
  sG : s < G
  qG : ∀ j, j < n → q j < G
  aG : ∀ b off, 0 < n → a = some ⟨b, off, none⟩ → b < G

theorem FS.bnd {W : World} {s : Nat} {a : Option Addr} {cap n : Nat} {q : Nat → Nat} {base size : Nat → Int} {last : Option Nat} {B : Int} (h : FS W s a cap n q base size last B) : Bnd a n W.heap.size s q := by
  refine ⟨h.slt, fun j hj => lt_of_cell (h.fbase j hj), fun b off hn e => ?_⟩
  obtain ⟨b', off', e', hc⟩ := h.row 0 hn
  rw [e] at e'
  cases e'
  exact lt_of_cell hc

theorem FS.setG {W : World} {s : Nat} {a : Option Addr} {cap n : Nat} {q : Nat → Nat} {base size : Nat → Int} {last : Option Nat} {B : Int} (h : FS W s a cap n q base size last B) {G : Nat} (hb : Bnd a n G s q) (j : Nat) (x : Value) :
    FS (W.setCell ⟨G, j, none⟩ x) s a cap n q base size last B := by
  have o : ∀ {b i : Nat} {v : Value}, b < G → W.cell? ⟨b, i, none⟩ = some v → (W.setCell ⟨G, j, none⟩ x).cell? ⟨b, i, none⟩ = some v := fun {b i v} hlt hc => by
    rw [World.cell?_setCell_other _ _ _ _ (by intro e; injection e with e; omega)]; exact hc
  refine ⟨o hb.sG h.cbase, o hb.sG h.cfiles, o hb.sG h.clast, fun i hi => by rw [World.frozen?_setCell]; exact h.free i hi, fun i hi => ?_, h.rowne, fun i hi => o (hb.qG i hi) (h.fbase i hi), fun i hi => o (hb.qG i hi) (h.fsize i hi), h.fne, h.lastlt⟩
  obtain ⟨b, off, e, hc⟩ := h.row i hi
  exact ⟨b, off, e, o (hb.aG b off (by omega) e) hc⟩

theorem Kp.toR {G s : Nat} {w w' : World} (h : Kp s w w') (hG : G ≤ w.heap.size) : KpR G s w w' := ⟨h.os, h.tape, h.output, h.size, fun k hk hs => h.block k (by omega) hs⟩

theorem KpR.cell {R s : Nat} {w w' : World} (h : KpR R s w w') {b o : Nat} {v : Value} (hR : b < R) (hb : b ≠ s) (hc : w.cell? ⟨b, o, none⟩ = some v) : w'.cell? ⟨b, o, none⟩ = some v := by
  rw [World.cell?_of_block (w := w) (a := ⟨b, o, none⟩) (h.block b hR hb)]; exact hc

theorem KpR.setG {G s : Nat} {w w' : World} (h : KpR G s w w') (j : Nat) (x : Value) : KpR G s w (w'.setCell ⟨G, j, none⟩ x) :=
  ⟨h.os, h.tape, h.output, by simpa using h.size, fun k hk hs => by rw [Below.heap_setCell _ _ _ _ (by show k ≠ G; omega)]; exact h.block k hk hs⟩

/-- The phase: below G nothing but s has turned; the set stands. -/
structure PH (w6 wr : World) (G s : Nat) (a : Option Addr) (cap n : Nat) (q : Nat → Nat) (base size : Nat → Int) (B : Int) : Prop where
  kr : KpR G s w6 wr
  fs : ∃ last, FS wr s a cap n q base size last B
  gz : G < wr.heap.size

theorem PH.look {w6 wr w1 : World} {G s : Nat} {a : Option Addr} {cap n : Nat} {q : Nat → Nat} {base size : Nat → Int} {B : Int} (h : PH w6 wr G s a cap n q base size B) (k : Looked wr w1 s a cap n q base size B) : PH w6 w1 G s a cap n q base size B :=
  ⟨h.kr.trans (k.kp.toR (Nat.le_of_lt h.gz)), k.fs, Nat.lt_of_lt_of_le h.gz k.kp.size⟩
theorem PH.setG {w6 wr : World} {G s : Nat} {a : Option Addr} {cap n : Nat} {q : Nat → Nat} {base size : Nat → Int} {B : Int} (h : PH w6 wr G s a cap n q base size B) (hb : Bnd a n G s q) (j : Nat) (x : Value) : PH w6 (wr.setCell ⟨G, j, none⟩ x) G s a cap n q base size B := by
  obtain ⟨last, hf⟩ := h.fs
  exact ⟨h.kr.setG j x, ⟨last, hf.setG hb j x⟩, by simpa using h.gz⟩
theorem PH.draws {w6 wr : World} {G s : Nat} {a : Option Addr} {cap n : Nat} {q : Nat → Nat} {base size : Nat → Int} {B : Int} (h : PH w6 wr G s a cap n q base size B) (d : Nat) : PH w6 (wr.drewN d) G s a cap n q base size B := by
  obtain ⟨last, hf⟩ := h.fs
  exact ⟨⟨h.kr.os, h.kr.tape, h.kr.output, h.kr.size, h.kr.block⟩, ⟨last, hf.below (below_drewN (Below.refl _ _) d)⟩, h.gz⟩

/-- File(p) in the phase. -/
theorem File_ph {w6 w : World} {G s : Nat} {a : Option Addr} {cap n : Nat} {q : Nat → Nat} {base size : Nat → Int} {B : Int} (h : PH w6 w G s a cap n q base size B) (hg : Good n base size) (p : Int) :
    Calls Edig.prog 11 #[.pointer (some ⟨s, 0, none⟩), .int .i64 p] w fun e w' => e = .returned (.pointer (ans q base size n p)) ∧ PH w6 w' G s a cap n q base size B ∧ Kp s w w' := by
  obtain ⟨last, hf⟩ := h.fs
  refine (File_any s a cap n q base size last B p w hf hg).mono ?_
  rintro e w' ⟨rfl, hl⟩
  exact ⟨rfl, h.look hl, hl.kp⟩

theorem fill_kp {F n k s : Nat} {f : Nat → Value} {w w' : World} (h : Fill F n k f w) (hk : Kp s w w') (hF : F < w.heap.size) (hs : F ≠ s) : Fill F n k f w' := h.keep (hk.block F hF hs)

/-- What is held of the world in a statement that asks the set and reads two rows. -/
def State (w6 w : World) (G s : Nat) (a : Option Addr) (cap n : Nat) (q : Nat → Nat) (base size : Nat → Int) (B : Int) (k : Nat) (f : Nat → Value) : Prop := PH w6 w G s a cap n q base size B ∧ Fill G k k f w

theorem held_start {w6 w : World} {G s : Nat} {a : Option Addr} {cap n : Nat} {q : Nat → Nat} {base size : Nat → Int} {B : Int} {k : Nat} {f : Nat → Value} {b o j : Nat} {x y : Value} (hp : PH w6 w G s a cap n q base size B) (hf : Fill G k k f w) (h1 : w.cell? ⟨b, o, none⟩ = some x) (h2 : w.cell? ⟨G, j, none⟩ = some y) :
    w.drew.cell? ⟨b, o, none⟩ = some x ∧ w.drew.cell? ⟨G, j, none⟩ = some y ∧ State w6 w.drew G s a cap n q base size B k f := ⟨h1, h2, hp.draws 1, hf.keep rfl⟩

theorem held_next {w6 w w7 : World} {G s : Nat} {a : Option Addr} {cap n : Nat} {q : Nat → Nat} {base size : Nat → Int} {B : Int} {k : Nat} {f : Nat → Value} {b o j : Nat} {x y : Value}
    (h : w.cell? ⟨b, o, none⟩ = some x ∧ w.cell? ⟨G, j, none⟩ = some y ∧ State w6 w G s a cap n q base size B k f) (hp : PH w6 w7 G s a cap n q base size B) (hk : Kp s w w7) (hb : b ≠ s) (hG : G ≠ s) :
    w7.cell? ⟨b, o, none⟩ = some x ∧ w7.cell? ⟨G, j, none⟩ = some y ∧ State w6 w7 G s a cap n q base size B k f :=
  ⟨hk.cell hb h.1, hk.cell hG h.2.1, hp, fill_kp h.2.2.2 hk h.2.2.1.gz hG⟩

theorem ans_in {q : Nat → Nat} {base size : Nat → Int} {n : Nat} {p : Int} {i : Nat} (hg : Good n base size) (hi : i < n) (h : In base size p i) : ans q base size n p = some ⟨q i, 0, none⟩ := by
  unfold ans; rw [hg.ord.look hi h]; rfl
theorem ans_no {q : Nat → Nat} {base size : Nat → Int} {n : Nat} {p : Int} (h : ∀ i, i < n → ¬ In base size p i) : ans q base size n p = none := by
  unfold ans; rw [look_no h]; rfl
theorem ans_zero {q : Nat → Nat} {base size : Nat → Int} {n : Nat} (hg : Good n base size) : ans q base size n 0 = none := by
  unfold ans; rw [hg.zero]; rfl

/-- Held in a statement that asks the set and reads three rows. -/
theorem held3_start {w0 w : World} {s : Nat} {a : Option Addr} {cap n : Nat} {q : Nat → Nat} {base size : Nat → Int} {B : Int} {b1 o1 b2 o2 b3 o3 : Nat} {x y z : Value} (hl : Looked w0 w s a cap n q base size B)
    (h1 : w.cell? ⟨b1, o1, none⟩ = some x) (h2 : w.cell? ⟨b2, o2, none⟩ = some y) (h3 : w.cell? ⟨b3, o3, none⟩ = some z) :
    w.drew.cell? ⟨b1, o1, none⟩ = some x ∧ w.drew.cell? ⟨b2, o2, none⟩ = some y ∧ w.drew.cell? ⟨b3, o3, none⟩ = some z ∧ Looked w0 w.drew s a cap n q base size B := ⟨h1, h2, h3, hl.draws 1⟩

theorem held3_next {w0 w w7 : World} {s : Nat} {a : Option Addr} {cap n : Nat} {q : Nat → Nat} {base size : Nat → Int} {B : Int} {b1 o1 b2 o2 b3 o3 : Nat} {x y z : Value}
    (h : w.cell? ⟨b1, o1, none⟩ = some x ∧ w.cell? ⟨b2, o2, none⟩ = some y ∧ w.cell? ⟨b3, o3, none⟩ = some z ∧ Looked w0 w s a cap n q base size B) (hl : Looked w0 w7 s a cap n q base size B) (hk : Kp s w w7) (n1 : b1 ≠ s) (n2 : b2 ≠ s) (n3 : b3 ≠ s) :
    w7.cell? ⟨b1, o1, none⟩ = some x ∧ w7.cell? ⟨b2, o2, none⟩ = some y ∧ w7.cell? ⟨b3, o3, none⟩ = some z ∧ Looked w0 w7 s a cap n q base size B := ⟨hk.cell n1 h.1, hk.cell n2 h.2.1, hk.cell n3 h.2.2.1, hl⟩

/-- File(p) in the phase of look-ups, with what it leaves of the world at hand. -/
theorem File_look' {w0 w : World} {s : Nat} {a : Option Addr} {cap n : Nat} {q : Nat → Nat} {base size : Nat → Int} {B : Int} (h : Looked w0 w s a cap n q base size B) (hg : Good n base size) (p : Int) :
    Calls Edig.prog 11 #[.pointer (some ⟨s, 0, none⟩), .int .i64 p] w fun e w' => e = .returned (.pointer (ans q base size n p)) ∧ Looked w0 w' s a cap n q base size B ∧ Kp s w w' := by
  obtain ⟨last, hf⟩ := h.fs
  refine (File_any s a cap n q base size last B p w hf hg).mono ?_
  rintro e w' ⟨rfl, hl⟩
  exact ⟨rfl, h.trans hl, hl.kp⟩

end Go.Proofs.Yoediw
