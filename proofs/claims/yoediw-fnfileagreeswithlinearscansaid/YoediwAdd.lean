/-
  The file set while it grows; (*SourceFileSet).AddFile (function 13).
-/
import Derived.Test.YoediwArgs
namespace Go.Proofs.Yoediw
open Go.RowKit

/-- The block of the set. -/
def setObj (B : Int) (v : Value) (p : Option Addr) : Obj := .cells #[.int .i64 B, v, .pointer p] 30 (0, 0)
/-- The block of a file. -/
def fileObj (s : Nat) (nm : ByteArray) (b z : Int) (l : Nat) : Obj := .cells #[.pointer (some ⟨s, 0, none⟩), .string nm, .int .i64 b, .int .i64 z, .slice (some ⟨l, 0, none⟩) 1 1] 36 (0, 0)
/-- The block of a file's lines. -/
def lineObj : Obj := .cells #[.int .i64 0] 3 (0, 0)
def ptr (q : Nat) : Value := .pointer (some ⟨q, 0, none⟩)

theorem cell_of_obj {W : World} {b : Nat} {C : Array Value} {t : TypeId} {m : Nat × Nat} (h : W.heap[b]? = some (.cells C t m)) (i : Nat) : W.cell? ⟨b, i, none⟩ = C[i]? := by
  simp [World.cell?, h]
theorem free_of_obj {W : World} {b : Nat} {C : Array Value} {t : TypeId} (h : W.heap[b]? = some (.cells C t (0, 0))) (i : Nat) : W.frozen? ⟨b, i, none⟩ = false := by
  simp [World.frozen?, h]

/-- The set in block s while files are added: its slice of pointers is a row of the call's own, at or above R. -/
structure HS (W : World) (R s : Nat) (v : Value) (n : Nat) (q l : Nat → Nat) (nm : Nat → ByteArray) (base size : Nat → Int) (last : Option Nat) (B : Int) : Prop where
  set : W.heap[s]? = some (setObj B v (last.map fun i => ⟨q i, 0, none⟩))
  own : W.ownsRow R 28 1 v n ((List.range n).map fun j => ptr (q j))
  file : ∀ j, j < n → W.heap[q j]? = some (fileObj s (nm j) (base j) (size j) (l j))
  line : ∀ j, j < n → W.heap[l j]? = some lineObj
  sR : s < R
  rW : R ≤ W.heap.size
  lastlt : ∀ i, last = some i → i < n
  qR : ∀ j, j < n → R ≤ q j
  lR : ∀ j, j < n → R ≤ l j

/-- What leaves s and every block from R on leaves the set. -/
theorem HS.keep {W W' : World} {R s : Nat} {v : Value} {n : Nat} {q l : Nat → Nat} {nm : Nat → ByteArray} {base size : Nat → Int} {last : Option Nat} {B : Int} (h : HS W R s v n q l nm base size last B)
    (hz : W.heap.size ≤ W'.heap.size) (hs : W'.heap[s]? = W.heap[s]?) (hR : ∀ k, R ≤ k → k < W.heap.size → W'.heap[k]? = W.heap[k]?) : HS W' R s v n q l nm base size last B := by
  have lt : ∀ {k o}, W.heap[k]? = some o → k < W.heap.size := fun {k o} hk => by
    rcases Nat.lt_or_ge k W.heap.size with x | x
    · exact x
    · rw [Array.getElem?_eq_none x] at hk; cases hk
  refine ⟨by rw [hs]; exact h.set, ?_, fun j hj => ?_, fun j hj => ?_, h.sR, Nat.le_trans h.rW hz, h.lastlt, h.qR, h.lR⟩
  · refine ⟨h.own.1, ?_⟩
    rcases h.own.2 with e | ⟨g, cap, cur, e, hg, hh, rest⟩
    · exact Or.inl e
    · exact Or.inr ⟨g, cap, cur, e, hg, by rw [hR g hg (lt hh)]; exact hh, rest⟩
  · rw [hR _ (h.qR j hj) (lt (h.file j hj))]; exact h.file j hj
  · rw [hR _ (h.lR j hj) (lt (h.line j hj))]; exact h.line j hj

/-- A store into a block below R, not s. -/
theorem HS.setCell {W : World} {R s : Nat} {v : Value} {n : Nat} {q l : Nat → Nat} {nm : Nat → ByteArray} {base size : Nat → Int} {last : Option Nat} {B : Int} (h : HS W R s v n q l nm base size last B) {F : Nat} (hF : F < R) (hs : F ≠ s) (j : Nat) (x : Value) :
    HS (W.setCell ⟨F, j, none⟩ x) R s v n q l nm base size last B :=
  h.keep (by simp) (Below.heap_setCell _ _ _ _ (fun e => hs e.symm)) (fun k hk _ => Below.heap_setCell _ _ _ _ (by show k ≠ F; omega))

/-- Every block below R but s is as it was. -/
structure KpR (R s : Nat) (w w' : World) : Prop where
  os : w'.os = w.os
  tape : w'.tape = w.tape
  output : w'.output = w.output
  size : w.heap.size ≤ w'.heap.size
  block : ∀ k, k < R → k ≠ s → w'.heap[k]? = w.heap[k]?

theorem KpR.refl (R s : Nat) (w : World) : KpR R s w w := ⟨rfl, rfl, rfl, Nat.le_refl _, fun _ _ _ => rfl⟩
theorem KpR.trans {R s : Nat} {a b c : World} (h : KpR R s a b) (k : KpR R s b c) : KpR R s a c :=
  ⟨k.os.trans h.os, k.tape.trans h.tape, k.output.trans h.output, Nat.le_trans h.size k.size, fun i hi hs => (k.block i hi hs).trans (h.block i hi hs)⟩
theorem KpR.below {R s B : Nat} {w w' : World} (h : KpR R s w w') (hB : B ≤ s) (hR : B ≤ R) : Below B w w' :=
  ⟨h.os, h.tape, h.output, h.size, fun k hk => h.block k (by omega) (by omega)⟩

/-- A function turned at one place. -/
def upd {α : Type} (f : Nat → α) (n : Nat) (x : α) : Nat → α := fun j => if j = n then x else f j
theorem upd_at {α : Type} (f : Nat → α) (n : Nat) (x : α) : upd f n x n = x := if_pos rfl
theorem upd_lt {α : Type} (f : Nat → α) {n j : Nat} (x : α) (h : j < n) : upd f n x j = f j := if_neg (by omega)

theorem map_upd (q : Nat → Nat) (n Q : Nat) : ((List.range (n + 1)).map fun j => ptr (upd q n Q j)) = ((List.range n).map fun j => ptr (q j)) ++ [ptr Q] := by
  rw [List.range_succ, List.map_append]
  congr 1
  · refine List.map_congr_left fun j hj => ?_
    rw [upd_lt q Q (List.mem_range.1 hj)]
  · simp [upd_at]

/-- The world at the append. -/
def atAppend (W : World) (s : Nat) (B' : Int) (name : ByteArray) (b sz : Int) : World :=
  (((W.setCell ⟨s, 0, none⟩ (.int .i64 B')).alloc (.cells #[.int .i64 0] 3)).alloc
    (.cells #[.pointer (some ⟨s, 0, none⟩), .string name, .int .i64 b, .int .i64 sz, .slice (some ⟨W.heap.size, 0, none⟩) 1 1] 36)).alloc
    (.cells #[.pointer (some ⟨W.heap.size + 1, 0, none⟩)] 28)

theorem atAppend_size (W : World) (s : Nat) (B' : Int) (name : ByteArray) (b sz : Int) : (atAppend W s B' name b sz).heap.size = W.heap.size + 3 := by
  simp [atAppend]
theorem atAppend_old (W : World) (s : Nat) (B' : Int) (name : ByteArray) (b sz : Int) (k : Nat) (hk : k < W.heap.size) (hs : k ≠ s) : (atAppend W s B' name b sz).heap[k]? = W.heap[k]? := by
  unfold atAppend
  rw [Below.heap_alloc _ _ _ (by simp; omega), Below.heap_alloc _ _ _ (by simp; omega), Below.heap_alloc _ _ _ (by simp; omega), Below.heap_setCell _ _ _ _ hs]
theorem atAppend_set {W : World} {s : Nat} {B : Int} {v : Value} {p : Option Addr} (h : W.heap[s]? = some (setObj B v p)) (B' : Int) (name : ByteArray) (b sz : Int) :
    (atAppend W s B' name b sz).heap[s]? = some (setObj B' v p) := by
  have hs : s < W.heap.size := by
    rcases Nat.lt_or_ge s W.heap.size with k | k
    · exact k
    · rw [Array.getElem?_eq_none k] at h; cases h
  unfold atAppend
  rw [Below.heap_alloc _ _ _ (by simp; omega), Below.heap_alloc _ _ _ (by simp; omega), Below.heap_alloc _ _ _ (by simp; omega), heap_setCell_same _ _ _ _ _ _ h]
  rfl
theorem heap_new (w : World) (o : Obj) : (w.alloc o).heap[w.heap.size]? = some o := by
  show (w.heap.push o)[w.heap.size]? = _
  simp
theorem atAppend_line (W : World) (s : Nat) (B' : Int) (name : ByteArray) (b sz : Int) : (atAppend W s B' name b sz).heap[W.heap.size]? = some lineObj := by
  unfold atAppend
  rw [Below.heap_alloc _ _ _ (by simp; omega), Below.heap_alloc _ _ _ (by simp)]
  have := heap_new (W.setCell ⟨s, 0, none⟩ (.int .i64 B')) (.cells #[.int .i64 0] 3)
  simpa [lineObj] using this
theorem atAppend_file (W : World) (s : Nat) (B' : Int) (name : ByteArray) (b sz : Int) : (atAppend W s B' name b sz).heap[W.heap.size + 1]? = some (fileObj s name b sz W.heap.size) := by
  unfold atAppend
  rw [Below.heap_alloc _ _ _ (by simp)]
  have := heap_new ((W.setCell ⟨s, 0, none⟩ (.int .i64 B')).alloc (.cells #[.int .i64 0] 3)) (.cells #[.pointer (some ⟨s, 0, none⟩), .string name, .int .i64 b, .int .i64 sz, .slice (some ⟨W.heap.size, 0, none⟩) 1 1] 36)
  simpa [fileObj] using this
theorem atAppend_own {W : World} {R s : Nat} {v : Value} {n : Nat} {xs : List Value} (h : W.ownsRow R 28 1 v n xs) (hs : s < R) (B' : Int) (name : ByteArray) (b sz : Int) : (atAppend W s B' name b sz).ownsRow R 28 1 v n xs :=
  (((ownsRow_setCell_below h hs _).alloc _).alloc _).alloc _

/-- A row of pointers is no set, no file, no lines. -/
theorem own_ne {W : World} {R : Nat} {v : Value} {n : Nat} {xs : List Value} (h : W.ownsRow R 28 1 v n xs) {k : Nat} {C : Array Value} {t : TypeId} (hk : W.heap[k]? = some (.cells C t (0, 0))) (ht : t ≠ 28) : some k ≠ v.ownBlock := by
  intro e
  rcases h.2 with ⟨rfl, _⟩ | ⟨g, cap, cur, rfl, _, hg, _⟩
  · cases e
  · simp only [Value.ownBlock, Option.some.injEq] at e
    subst e
    rw [hg] at hk
    injection hk with hk
    injection hk with _ h2 _
    exact ht h2.symm

theorem own_slice {W : World} {R : Nat} {v : Value} {n : Nat} {xs : List Value} (h : W.ownsRow R 28 1 v (n + 1) xs) : ∃ g cap, v = .slice (some ⟨g, 0, none⟩) (n + 1) cap := by
  rcases h.2 with ⟨_, e⟩ | ⟨g, cap, _, rfl, _⟩
  · cases e
  · exact ⟨g, cap, rfl⟩

/-- The set's block behind the append. -/
theorem add_blk {W : World} {R s : Nat} {v : Value} {n : Nat} {q l : Nat → Nat} {nm : Nat → ByteArray} {base size : Nat → Int} {last : Option Nat} {B : Int} (h : HS W R s v n q l nm base size last B) (B' : Int) (name : ByteArray) (b sz : Int)
    {w1 : World} (hg : (atAppend W s B' name b sz).grownBy w1 v.ownBlock) : w1.heap[s]? = some (setObj B' v (last.map fun i => ⟨q i, 0, none⟩)) := by
  have hsz := atAppend_size W s B' name b sz
  have hsR := h.sR
  have hrW := h.rW
  have hset := atAppend_set h.set B' name b sz
  rw [hg.block s (by rw [hsz]; omega) (own_ne (atAppend_own h.own h.sR B' name b sz) hset (by decide))]; exact hset

/-- What AddFile leaves. -/
theorem add_end {W : World} {R s : Nat} {v : Value} {n : Nat} {q l : Nat → Nat} {nm : Nat → ByteArray} {base size : Nat → Int} {last : Option Nat} {B : Int} (h : HS W R s v n q l nm base size last B) (B' : Int)
    {v' : Value} {w1 : World} (hown : w1.ownsRow R 28 1 v' (n + 1) (((List.range n).map fun j => ptr (q j)) ++ [ptr (W.heap.size + 1)]))
    (hg : (atAppend W s B' (nm n) (base n) (size n)).grownBy w1 v.ownBlock) :
    HS ((w1.setCell ⟨s, 1, none⟩ v').setCell ⟨s, 2, none⟩ (.pointer (some ⟨W.heap.size + 1, 0, none⟩))) R s v' (n + 1) (upd q n (W.heap.size + 1)) (upd l n W.heap.size) nm base size (some n) B' ∧
      KpR R s W ((w1.setCell ⟨s, 1, none⟩ v').setCell ⟨s, 2, none⟩ (.pointer (some ⟨W.heap.size + 1, 0, none⟩))) := by
  have hsz := atAppend_size W s B' (nm n) (base n) (size n)
  have hoA := atAppend_own h.own h.sR B' (nm n) (base n) (size n)
  have hsR := h.sR
  have hrW := h.rW
  have k1 := add_blk h B' (nm n) (base n) (size n) hg
  have k2 : ∀ k C t, k ≠ s → t ≠ 28 → (atAppend W s B' (nm n) (base n) (size n)).heap[k]? = some (.cells C t (0, 0)) → ((w1.setCell ⟨s, 1, none⟩ v').setCell ⟨s, 2, none⟩ (.pointer (some ⟨W.heap.size + 1, 0, none⟩))).heap[k]? = some (.cells C t (0, 0)) := by
    intro k C t hk ht hc
    have hlt : k < (atAppend W s B' (nm n) (base n) (size n)).heap.size := by
      rcases Nat.lt_or_ge k (atAppend W s B' (nm n) (base n) (size n)).heap.size with x | x
      · exact x
      · rw [Array.getElem?_eq_none x] at hc; cases hc
    rw [Below.heap_setCell _ _ _ _ hk, Below.heap_setCell _ _ _ _ hk, hg.block k hlt (own_ne hoA hc ht)]
    exact hc
  have old : ∀ j C t, t ≠ 30 → W.heap[j]? = some (.cells C t (0, 0)) → j ≠ s ∧ (atAppend W s B' (nm n) (base n) (size n)).heap[j]? = some (.cells C t (0, 0)) := by
    intro j C t ht hc
    have hlt : j < W.heap.size := by
      rcases Nat.lt_or_ge j W.heap.size with x | x
      · exact x
      · rw [Array.getElem?_eq_none x] at hc; cases hc
    have hne : j ≠ s := by
      intro e
      subst e
      rw [h.set] at hc
      injection hc with hc
      injection hc with _ h2 _
      exact ht h2.symm
    exact ⟨hne, by rw [atAppend_old _ _ _ _ _ _ _ hlt hne]; exact hc⟩
  refine ⟨⟨?_, ?_, ?_, ?_, hsR, ?_, (fun i e => by injection e with e; omega), ?_, ?_⟩, ⟨hg.os, hg.tape, hg.output, ?_, ?_⟩⟩
  · rw [heap_setCell_same _ _ _ _ _ _ (heap_setCell_same _ _ _ _ _ _ k1)]
    simp [setObj, upd_at]
  · rw [map_upd]
    exact ownsRow_setCell_below (ownsRow_setCell_below hown (a := ⟨s, 1, none⟩) hsR _) (a := ⟨s, 2, none⟩) hsR _
  · intro j hj
    by_cases e : j = n
    · subst e
      rw [upd_at, upd_at]
      exact k2 _ _ _ (by omega) (by decide) (atAppend_file W s B' (nm j) (base j) (size j))
    · have hj' : j < n := by omega
      rw [upd_lt q _ hj', upd_lt l _ hj']
      obtain ⟨hne, hc⟩ := old (q j) _ _ (by decide) (h.file j hj')
      exact k2 _ _ _ hne (by decide) hc
  · intro j hj
    by_cases e : j = n
    · subst e
      rw [upd_at]
      exact k2 _ _ _ (by omega) (by decide) (atAppend_line W s B' (nm j) (base j) (size j))
    · have hj' : j < n := by omega
      rw [upd_lt l _ hj']
      obtain ⟨hne, hc⟩ := old (l j) _ _ (by decide) (h.line j hj')
      exact k2 _ _ _ hne (by decide) hc
  · have := hg.size; simp; omega
  · intro j hj
    by_cases e : j = n
    · subst e; rw [upd_at]; omega
    · rw [upd_lt q _ (by omega)]; exact h.qR j (by omega)
  · intro j hj
    by_cases e : j = n
    · subst e; rw [upd_at]; omega
    · rw [upd_lt l _ (by omega)]; exact h.lR j (by omega)
  · have := hg.size; simp; omega
  · intro k hk hs
    rw [Below.heap_setCell _ _ _ _ hs, Below.heap_setCell _ _ _ _ hs, hg.block k (by omega) ?_]
    · exact atAppend_old _ _ _ _ _ _ _ (by omega) hs
    · intro e
      have := (hoA.lt k e.symm).1
      omega

set_option maxHeartbeats 400000 in
/-- AddFile with a negative base: the set gives its own. -/
theorem add_neg (W : World) (R s : Nat) (v : Value) (n : Nat) (q l : Nat → Nat) (nm : Nat → ByteArray) (base size : Nat → Int) (last : Option Nat) (B : Int) (h : HS W R s v n q l nm base size last B)
    (b : Int) (hb : b < 0) (hbb : base n = B) (hB1 : 1 ≤ B) (hs0 : 0 ≤ size n) (hfit : base n + size n + 1 ≤ 9223372036854775807) (hn : n ≤ 1048575) :
    Calls Edig.prog 13 #[ptr s, .string (nm n), .int .i64 b, .int .i64 (size n)] W fun e W' => ∃ v' Q L, e = .returned (ptr Q) ∧ HS W' R s v' (n + 1) (upd q n Q) (upd l n L) nm base size (some n) (base n + (size n + 1)) ∧ KpR R s W W' := by
  have c0 : W.cell? ⟨s, 0, none⟩ = some (.int .i64 B) := cell_of_obj h.set 0
  have c1 : W.cell? ⟨s, 1, none⟩ = some v := cell_of_obj h.set 1
  have f0 := free_of_obj h.set 0
  have hsl : s < W.heap.size := lt_of_cell c0
  have HH := hideIt h
  have HE := hideIt (fun v' w1 => @add_end W R s v n q l nm base size last B h (base n + (size n + 1)) v' w1)
  obtain ⟨i0, hi, hz0, hz1, hz2⟩ := info_of (t := 28) (z := .pointer none) (s := 1) (b := 8) (by kernel_rfl)
  clear h
  unfold ptr
  generalize size n = sz at *
  generalize nm n = name at *
  generalize hbn : base n = bn at *
  subst hbb
  go_enter Edig.func13, Edig.ntmps13
  go_wp2_with (at_builtin; refine wpList_append_own _ rfl _ _ 27 rfl R 28 i0 (.pointer none) 1 8 Edig.underlying27 hi hz0 hz1 hz2 rfl (by decide) v n ((List.range n).map fun j => ptr (q j)) rfl ?hown ⟨W.heap.size + 2, 0, none⟩ 1 1 [.pointer (some ⟨W.heap.size + 1, 0, none⟩)] rfl rfl ?c1 ?c2 ?c3 ?c4 ?c5 ?_)
  case hown => exact atAppend_own HH.out.own HH.out.sR _ _ _ _
  case c1 =>
    intro j u hj
    match j, hj with
    | 0, hj =>
      simp at hj
      subst hj
      show World.cell? _ ⟨W.heap.size + 2, 0, none⟩ = _
      rw [World.cell?_alloc_at _ _ _ _ (by simp)]
      rfl
  case c2 => intro u hu; simp at hu; subst hu; rfl
  case c3 => unfold maxLen; omega
  case c4 => omega
  case c5 => have := HH.out.rW; simp; omega
  · intro v' w1 hown' hgrow _
    have HR := hideIt (HE.out v' w1 hown' hgrow)
    obtain ⟨g, cap, rfl⟩ := own_slice hown'
    have kb := add_blk HH.out _ _ _ _ hgrow
    have d1 : w1.cell? ⟨s, 1, none⟩ = some v := cell_of_obj kb 1
    have d2 : w1.cell? ⟨s, 2, none⟩ = some (.pointer (last.map fun i => ⟨q i, 0, none⟩)) := cell_of_obj kb 2
    have e1 := free_of_obj kb 1
    have e2 := free_of_obj kb 2
    clear hown' hgrow kb c0 c1 f0 HE HH hi
    go_wp2
    go_ret
    exact ⟨_, W.heap.size + 1, W.heap.size, rfl, HR.out⟩

set_option maxHeartbeats 400000 in
/-- AddFile with a base at or above the set's. -/
theorem add_pos (W : World) (R s : Nat) (v : Value) (n : Nat) (q l : Nat → Nat) (nm : Nat → ByteArray) (base size : Nat → Int) (last : Option Nat) (B : Int) (h : HS W R s v n q l nm base size last B)
    (b : Int) (hb : 0 ≤ b) (hBb : B ≤ b) (hbb : base n = b) (hB1 : 1 ≤ B) (hs0 : 0 ≤ size n) (hfit : base n + size n + 1 ≤ 9223372036854775807) (hn : n ≤ 1048575) :
    Calls Edig.prog 13 #[ptr s, .string (nm n), .int .i64 b, .int .i64 (size n)] W fun e W' => ∃ v' Q L, e = .returned (ptr Q) ∧ HS W' R s v' (n + 1) (upd q n Q) (upd l n L) nm base size (some n) (base n + (size n + 1)) ∧ KpR R s W W' := by
  have c0 : W.cell? ⟨s, 0, none⟩ = some (.int .i64 B) := cell_of_obj h.set 0
  have c1 : W.cell? ⟨s, 1, none⟩ = some v := cell_of_obj h.set 1
  have f0 := free_of_obj h.set 0
  have hsl : s < W.heap.size := lt_of_cell c0
  have HH := hideIt h
  have HE := hideIt (fun v' w1 => @add_end W R s v n q l nm base size last B h (base n + (size n + 1)) v' w1)
  obtain ⟨i0, hi, hz0, hz1, hz2⟩ := info_of (t := 28) (z := .pointer none) (s := 1) (b := 8) (by kernel_rfl)
  clear h
  unfold ptr
  generalize size n = sz at *
  generalize nm n = name at *
  generalize hbn : base n = bn at *
  subst hbb
  go_enter Edig.func13, Edig.ntmps13
  go_wp2_with (at_builtin; refine wpList_append_own _ rfl _ _ 27 rfl R 28 i0 (.pointer none) 1 8 Edig.underlying27 hi hz0 hz1 hz2 rfl (by decide) v n ((List.range n).map fun j => ptr (q j)) rfl ?hown ⟨W.heap.size + 2, 0, none⟩ 1 1 [.pointer (some ⟨W.heap.size + 1, 0, none⟩)] rfl rfl ?c1 ?c2 ?c3 ?c4 ?c5 ?_)
  case hown => exact atAppend_own HH.out.own HH.out.sR _ _ _ _
  case c1 =>
    intro j u hj
    match j, hj with
    | 0, hj =>
      simp at hj
      subst hj
      show World.cell? _ ⟨W.heap.size + 2, 0, none⟩ = _
      rw [World.cell?_alloc_at _ _ _ _ (by simp)]
      rfl
  case c2 => intro u hu; simp at hu; subst hu; rfl
  case c3 => unfold maxLen; omega
  case c4 => omega
  case c5 => have := HH.out.rW; simp; omega
  · intro v' w1 hown' hgrow _
    have HR := hideIt (HE.out v' w1 hown' hgrow)
    obtain ⟨g, cap, rfl⟩ := own_slice hown'
    have kb := add_blk HH.out _ _ _ _ hgrow
    have d1 : w1.cell? ⟨s, 1, none⟩ = some v := cell_of_obj kb 1
    have d2 : w1.cell? ⟨s, 2, none⟩ = some (.pointer (last.map fun i => ⟨q i, 0, none⟩)) := cell_of_obj kb 2
    have e1 := free_of_obj kb 1
    have e2 := free_of_obj kb 2
    clear hown' hgrow kb c0 c1 f0 HE HH hi
    go_wp2
    go_ret
    exact ⟨_, W.heap.size + 1, W.heap.size, rfl, HR.out⟩

/-- AddFile. -/
theorem add_any (W : World) (R s : Nat) (v : Value) (n : Nat) (q l : Nat → Nat) (nm : Nat → ByteArray) (base size : Nat → Int) (last : Option Nat) (B : Int) (h : HS W R s v n q l nm base size last B)
    (b : Int) (hb : base n = if b < 0 then B else b) (hBb : B ≤ base n) (hB1 : 1 ≤ B) (hs0 : 0 ≤ size n) (hfit : base n + size n + 1 ≤ 9223372036854775807) (hn : n ≤ 1048575) :
    Calls Edig.prog 13 #[ptr s, .string (nm n), .int .i64 b, .int .i64 (size n)] W fun e W' => ∃ v' Q L, e = .returned (ptr Q) ∧ HS W' R s v' (n + 1) (upd q n Q) (upd l n L) nm base size (some n) (base n + (size n + 1)) ∧ KpR R s W W' := by
  by_cases hn0 : b < 0
  · rw [if_pos hn0] at hb
    exact add_neg W R s v n q l nm base size last B h b hn0 hb hB1 hs0 hfit hn
  · rw [if_neg hn0] at hb
    exact add_pos W R s v n q l nm base size last B h b (by omega) (by omega) hb hB1 hs0 hfit hn

/-- The growing set, as the look-ups take it. -/
theorem HS.fs {W : World} {R s : Nat} {v : Value} {n : Nat} {q l : Nat → Nat} {nm : Nat → ByteArray} {base size : Nat → Int} {last : Option Nat} {B : Int} (h : HS W R s v n q l nm base size last B) :
    ∃ a cap, v = .slice a n cap ∧ FS W s a cap n q base size last B := by
  have hsR := h.sR
  obtain ⟨a, cap, e, hrow, hne⟩ : ∃ a cap, v = .slice a n cap ∧ RowV W a n (fun j => .pointer (some ⟨q j, 0, none⟩)) ∧ ∀ b off, a = some ⟨b, off, none⟩ → b ≠ s := by
    have ho := h.own
    rcases ho.2 with ⟨rfl, rfl⟩ | ⟨g, cap, cur, rfl, hg, _⟩
    · exact ⟨none, 0, rfl, RowV.nil _ _ _, fun b off e => by cases e⟩
    · refine ⟨_, cap, rfl, fun j hj => ⟨g, 0, rfl, ?_⟩, fun b off e => by injection e with e; injection e with e1 _; omega⟩
      rw [Nat.zero_add, ho.cellAt j (by omega)]
      simp [hj, ptr]
  subst e
  exact ⟨a, cap, rfl, cell_of_obj h.set 0, cell_of_obj h.set 1, cell_of_obj h.set 2, fun j _ => free_of_obj h.set j, hrow, hne, fun j hj => cell_of_obj (h.file j hj) 2, fun j hj => cell_of_obj (h.file j hj) 3,
    fun j hj e => by
      have hf := h.file j hj
      rw [e, h.set] at hf
      injection hf with hf
      injection hf with _ h2 _
      exact absurd h2 (by decide), h.lastlt⟩

/-- A fresh set. -/
theorem HS.new {W : World} {R s : Nat} (h : W.heap[s]? = some (setObj 1 (.slice none 0 0) none)) (hs : s < R) (hR : R ≤ W.heap.size) (q l : Nat → Nat) (nm : Nat → ByteArray) (base size : Nat → Int) :
    HS W R s (.slice none 0 0) 0 q l nm base size none 1 :=
  ⟨h, World.ownsRow_nil _ _ _ _, fun j hj => absurd hj (Nat.not_lt_zero j), fun j hj => absurd hj (Nat.not_lt_zero j), hs, hR, (fun i e => by cases e), fun j hj => absurd hj (Nat.not_lt_zero j), fun j hj => absurd hj (Nat.not_lt_zero j)⟩

/-- An empty set, while another set is asked. -/
theorem FS.other0 {W W' : World} {s s' : Nat} {q : Nat → Nat} {base size : Nat → Int} {B : Int} (h : FS W s none 0 0 q base size none B) (k : Kp s' W W') (hne : s ≠ s') : FS W' s none 0 0 q base size none B := by
  refine ⟨k.cell hne h.cbase, k.cell hne h.cfiles, k.cell hne h.clast, fun j hj => ?_, RowV.nil _ _ _, h.rowne, fun j hj => absurd hj (Nat.not_lt_zero j), fun j hj => absurd hj (Nat.not_lt_zero j), fun j hj => absurd hj (Nat.not_lt_zero j), h.lastlt⟩
  rw [World.frozen?_of_block (w := W) (a := ⟨s, j, none⟩) (k.block s h.slt hne)]
  exact h.free j hj

end Go.Proofs.Yoediw
