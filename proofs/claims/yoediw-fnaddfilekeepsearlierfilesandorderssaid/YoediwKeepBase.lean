/-
  The state of FnAddFileKeepsEarlierFilesAndOrders (function 5).
-/
import Derived.Test.YoediwScript
namespace Go.Proofs.Yoediw
open Go.RowKit

/-- The law's state behind k calls: set s, arrays F1 to F4. -/
structure AS (w wr : World) (R s F1 F2 F3 F4 n k : Nat) (q : Nat → Nat) (N : Nat) (z : Nat → ByteArray) (m : Nat) (bz sz : Nat → Int) : Prop where
  hs : ∃ v l last, HS wr R s v k q l (nmf N z) (mb m bz sz) sz last (nxt m bz sz k)
  f1 : Fill F1 n k (fun j => .pointer (some ⟨q j, 0, none⟩)) wr
  f2 : Fill F2 n k (fun j => .string (nmf N z j)) wr
  f3 : Fill F3 n k (fun j => .int .i64 (mb m bz sz j)) wr
  f4 : Fill F4 n k (fun j => .int .i64 (nxt m bz sz (j + 1))) wr
  bel : Below s w wr

theorem keep_start (w : World) (n N : Nat) (z : Nat → ByteArray) (m : Nat) (bz sz : Nat → Int) :
    AS w (((((w.alloc (.cells #[.int .i64 1, .slice none 0 0, .pointer none] 30)).alloc (.cells (zeroRow (.pointer none) n) 28)).alloc (.cells (zeroRow (.string ⟨#[]⟩) n) 9)).alloc (.cells (zeroRow (.int .i64 0) n) 3)).alloc (.cells (zeroRow (.int .i64 0) n) 3))
      (w.heap.size + 5) w.heap.size (w.heap.size + 1) (w.heap.size + 1 + 1) (w.heap.size + 1 + 1 + 1) (w.heap.size + 1 + 1 + 1 + 1) n 0 (fun _ => 0) N z m bz sz := by
  refine ⟨⟨.slice none 0 0, fun _ => 0, none, HS.new ?_ (by omega) (by simp) _ _ _ _ _⟩, ?_, ?_, ?_, ?_, (((((Below.refl _ w).alloc (Nat.le_refl _) _).alloc (by simp) _).alloc (by simp <;> omega) _).alloc (by simp <;> omega) _).alloc (by simp <;> omega) _⟩
  · rw [Below.heap_alloc _ _ _ (by simp <;> omega), Below.heap_alloc _ _ _ (by simp <;> omega), Below.heap_alloc _ _ _ (by simp <;> omega), Below.heap_alloc _ _ _ (by simp)]
    exact heap_new w _
  · have := Fill.start (w.alloc (.cells #[.int .i64 1, .slice none 0 0, .pointer none] 30)) (.pointer none) n 28 (fun _ => .pointer (some ⟨0, 0, none⟩))
    rw [World.size_alloc] at this
    refine this.keep ?_
    rw [Below.heap_alloc _ _ _ (by simp <;> omega), Below.heap_alloc _ _ _ (by simp <;> omega), Below.heap_alloc _ _ _ (by simp)]
  · have := Fill.start ((w.alloc (.cells #[.int .i64 1, .slice none 0 0, .pointer none] 30)).alloc (.cells (zeroRow (.pointer none) n) 28)) (.string ⟨#[]⟩) n 9 (fun j => .string (nmf N z j))
    rw [World.size_alloc, World.size_alloc] at this
    refine this.keep ?_
    rw [Below.heap_alloc _ _ _ (by simp <;> omega), Below.heap_alloc _ _ _ (by simp)]
  · have := Fill.start (((w.alloc (.cells #[.int .i64 1, .slice none 0 0, .pointer none] 30)).alloc (.cells (zeroRow (.pointer none) n) 28)).alloc (.cells (zeroRow (.string ⟨#[]⟩) n) 9)) (.int .i64 0) n 3 (fun j => .int .i64 (mb m bz sz j))
    rw [World.size_alloc, World.size_alloc, World.size_alloc] at this
    refine this.keep ?_
    rw [Below.heap_alloc _ _ _ (by simp)]
  · have := Fill.start ((((w.alloc (.cells #[.int .i64 1, .slice none 0 0, .pointer none] 30)).alloc (.cells (zeroRow (.pointer none) n) 28)).alloc (.cells (zeroRow (.string ⟨#[]⟩) n) 9)).alloc (.cells (zeroRow (.int .i64 0) n) 3)) (.int .i64 0) n 3 (fun j => .int .i64 (nxt m bz sz (j + 1)))
    rw [World.size_alloc, World.size_alloc, World.size_alloc, World.size_alloc] at this
    exact this

/-- What the round is told of the world behind AddFile. -/
structure Told (w1 : World) (R s F1 F2 F3 F4 k Q : Nat) (nm : ByteArray) (b z x : Int) : Prop where
  q1 : w1.cell? ⟨Q, 1, none⟩ = some (.string nm)
  q2 : w1.cell? ⟨Q, 2, none⟩ = some (.int .i64 b)
  q3 : w1.cell? ⟨Q, 3, none⟩ = some (.int .i64 z)
  s0 : w1.cell? ⟨s, 0, none⟩ = some (.int .i64 x)
  h1 : ∃ y, w1.cell? ⟨F1, k, none⟩ = some y
  h2 : ∃ y, w1.cell? ⟨F2, k, none⟩ = some y
  h3 : ∃ y, w1.cell? ⟨F3, k, none⟩ = some y
  h4 : ∃ y, w1.cell? ⟨F4, k, none⟩ = some y
  r1 : w1.frozen? ⟨F1, k, none⟩ = false
  r2 : w1.frozen? ⟨F2, k, none⟩ = false
  r3 : w1.frozen? ⟨F3, k, none⟩ = false
  r4 : w1.frozen? ⟨F4, k, none⟩ = false
  rq : R ≤ Q

theorem fill_upd {F n k : Nat} {q : Nat → Nat} {Q : Nat} {w : World} (h : Fill F n k (fun j => .pointer (some ⟨q j, 0, none⟩)) w) : Fill F n k (fun j => .pointer (some ⟨upd q k Q j, 0, none⟩)) w :=
  ⟨h.free, h.has, fun j hj => by rw [upd_lt q Q hj]; exact h.done j hj⟩

theorem fill_set {F n k : Nat} {f : Nat → Value} {w : World} (h : Fill F n k f w) {G : Nat} (hG : F ≠ G) (j : Nat) (x : Value) : Fill F n k f (w.setCell ⟨G, j, none⟩ x) :=
  h.keep (Below.heap_setCell _ _ _ _ hG)

theorem AS.step {w wr w1 : World} {R s F1 F2 F3 F4 n k : Nat} {q : Nat → Nat} {N : Nat} {z : Nat → ByteArray} {m : Nat} {bz sz : Nat → Int} (h : AS w wr R s F1 F2 F3 F4 n k q N z m bz sz) (hk : k < n)
    (o1 : s < F1) (o2 : F1 < F2) (o3 : F2 < F3) (o4 : F3 < F4) (o5 : F4 < R)
    {v' : Value} {Q L : Nat} {l : Nat → Nat} {last : Option Nat} (hs : HS w1 R s v' (k + 1) (upd q k Q) (upd l k L) (nmf N z) (mb m bz sz) sz last (nxt m bz sz (k + 1))) (hkp : KpR R s wr w1) :
    AS w ((((w1.setCell ⟨F1, k, none⟩ (.pointer (some ⟨Q, 0, none⟩))).setCell ⟨F2, k, none⟩ (.string (nmf N z k))).setCell ⟨F3, k, none⟩ (.int .i64 (mb m bz sz k))).setCell ⟨F4, k, none⟩ (.int .i64 (nxt m bz sz (k + 1)))) R s F1 F2 F3 F4 n (k + 1) (upd q k Q) N z m bz sz ∧
      Told w1 R s F1 F2 F3 F4 k Q (nmf N z k) (mb m bz sz k) (sz k) (nxt m bz sz (k + 1)) := by
  have g1 := h.f1.keep (hkp.block F1 (by omega) (by omega))
  have g2 := h.f2.keep (hkp.block F2 (by omega) (by omega))
  have g3 := h.f3.keep (hkp.block F3 (by omega) (by omega))
  have g4 := h.f4.keep (hkp.block F4 (by omega) (by omega))
  have hq := hs.file k (by omega)
  rw [upd_at, upd_at] at hq
  have hR := hs.qR k (by omega)
  rw [upd_at] at hR
  have e1 := (fill_upd (Q := Q) g1).put hk
  simp only [upd_at] at e1
  constructor
  · refine ⟨⟨_, _, _, (((hs.setCell (F := F1) (by omega) (by omega) k _).setCell (F := F2) (by omega) (by omega) k _).setCell (F := F3) (by omega) (by omega) k _).setCell (F := F4) (by omega) (by omega) k _⟩, ?_, ?_, ?_, ?_, ?_⟩
    · exact fill_set (fill_set (fill_set e1 (by omega) k _) (by omega) k _) (by omega) k _
    · exact fill_set (fill_set ((fill_set g2 (by omega) k _).put hk) (by omega) k _) (by omega) k _
    · exact fill_set ((fill_set (fill_set g3 (by omega) k _) (by omega) k _).put hk) (by omega) k _
    · exact (fill_set (fill_set (fill_set g4 (by omega) k _) (by omega) k _) (by omega) k _).put hk
    · exact ((((h.bel.trans (hkp.below (Nat.le_refl _) (by omega))).setCell (p := ⟨F1, k, none⟩) (Nat.le_of_lt o1) _).setCell (p := ⟨F2, k, none⟩) (by show s ≤ F2; omega) _).setCell (p := ⟨F3, k, none⟩) (by show s ≤ F3; omega) _).setCell (p := ⟨F4, k, none⟩) (by show s ≤ F4; omega) _
  · exact ⟨cell_of_obj hq 1, cell_of_obj hq 2, cell_of_obj hq 3, cell_of_obj hs.set 0, g1.has k hk, g2.has k hk, g3.has k hk, g4.has k hk, g1.free k hk, g2.free k hk, g3.free k hk, g4.free k hk, hR⟩

/-- Draws turn nothing. -/
theorem AS.draws {w wr : World} {R s F1 F2 F3 F4 n k : Nat} {q : Nat → Nat} {N : Nat} {z : Nat → ByteArray} {m : Nat} {bz sz : Nat → Int} (h : AS w wr R s F1 F2 F3 F4 n k q N z m bz sz) (d : Nat) : AS w (wr.drewN d) R s F1 F2 F3 F4 n k q N z m bz sz := by
  obtain ⟨v, l, last, hh⟩ := h.hs
  exact ⟨⟨v, l, last, hh.keep (Nat.le_refl _) rfl (fun _ _ _ => rfl)⟩, h.f1.keep rfl, h.f2.keep rfl, h.f3.keep rfl, h.f4.keep rfl, below_drewN h.bel d⟩

end Go.Proofs.Yoediw
