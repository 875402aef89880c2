/-
  The walk of FnAddFileKeepsEarlierFilesAndOrders (function 5).
-/
import Derived.Test.YoediwKeepBase
namespace Go.Proofs.Yoediw
open Go.RowKit

set_option maxRecDepth 100000 in
set_option maxHeartbeats 1000000 in
theorem keep_long (a b c : Option Addr) (N m n ca cb cc : Nat) (z : Nat → ByteArray) (w : World) (h1 : N ≤ maxLen) (h2 : m ≤ maxLen) (h3 : n ≤ maxLen) (hr : RowV w a N (fun j => .string (z j))) (h : ¬ (N ≤ 65536 ∧ m ≤ 131072 ∧ n ≤ 4096)) :
    Calls Edig.prog 5 #[.slice a N ca, .slice b m cb, .slice c n cc] w fun e w' => e = .returned (.bool true) ∧ Below w.heap.size w w' := by
  have HC := hideIt (bytes14 a b c N m n ca cb cc z w h1 h2 h3 hr)
  clear hr
  unfold maxLen at h1 h2 h3
  go_enter Edig.func5, Edig.ntmps5
  go_wp2_with fail
  refine HC.out.mono ?_
  rintro e w' ⟨⟨r, rfl⟩, rfl⟩
  clear HC
  cases r
  · go_wp2
    go_ret
    exact ⟨rfl, Below.refl _ _⟩
  · by_cases hN : 65536 < N
    · clear h
      go_wp2
      go_ret
      exact ⟨rfl, Below.refl _ _⟩
    · by_cases hm : 131072 < m
      · clear h
        go_wp2
        go_ret
        exact ⟨rfl, Below.refl _ _⟩
      · have hn : 4096 < n := by omega
        clear h
        go_wp2
        go_ret
        exact ⟨rfl, Below.refl _ _⟩

set_option maxRecDepth 100000 in
set_option maxHeartbeats 4000000 in
theorem keep_core (a b c : Option Addr) (N m n ca cb cc : Nat) (z : Nat → ByteArray) (bz sz : Nat → Int) (w : World) (hN : N ≤ 65536) (hm : m ≤ 131072) (hn : n ≤ 4096)
    (ha : StrArg w a N ca z) (hb : IntArg w b m cb bz) (hc : IntArg w c n cc sz) :
    Calls Edig.prog 5 #[.slice a N ca, .slice b m cb, .slice c n cc] w fun e w' => e = .returned (.bool true) ∧ Below w.heap.size w w' := by
  have HA := hideIt ha
  have HB := hideIt hb
  have HC := hideIt hc
  clear ha hb hc
  go_enter Edig.func5, Edig.ntmps5
  go_wp2_with fail
  refine (bytes14 a b c N m n ca cb cc z _ HA.out.max HB.out.max HC.out.max HA.out.row).mono ?_
  rintro e w' ⟨⟨r, rfl⟩, rfl⟩
  cases r
  · go_wp2
    go_ret
    exact ⟨rfl, Below.refl _ _⟩
  · go_wp2_with fail
    refine (script15 a b c N m n ca cb cc z _ (by omega) (by omega) (by omega) HA.out.row).mono ?_
    rintro e w' ⟨⟨t, rfl⟩, rfl⟩
    by_cases ht : 1048576 < t
    · go_wp2
      go_ret
      exact ⟨rfl, Below.refl _ _⟩
    · go_wp2_with fail
      refine (model_any b m cb c n cc bz sz _ (by omega) (by omega) HB.out HC.out).mono ?_
      rintro e w1 (⟨rfl, hb1⟩ | ⟨rfl, hok, _, hb1, _⟩)
      · go_wp2
        go_ret
        exact ⟨rfl, hb1⟩
      · have B1 := hideIt hb1
        have HO := hideIt hok
        clear hb1 hok
        go_wp2_with fail
        refine (cloneS_any a N ca z _ (by omega) HA.out.nil (by exact HA.out.row.below B1.out)).mono ?_
        rintro e w2 ⟨a', ca', rfl, ra, hb2⟩
        have B2 := hideIt (bel2 B1.out hb2)
        have RA := hideIt ra
        clear hb2 ra B1
        go_wp2_with fail
        refine (clone_any b m cb bz _ (by omega) HB.out.nil (by exact HB.out.row.below B2.out)).mono ?_
        rintro e w3 ⟨b', cb', rfl, rb, hb3⟩
        have B3 := hideIt (bel2 B2.out hb3)
        replace RA := hideIt (RA.out.below hb3)
        have RB := hideIt rb
        clear hb3 rb B2
        go_wp2_with fail
        refine (clone_any c n cc sz _ (by omega) HC.out.nil (by exact HC.out.row.below B3.out)).mono ?_
        rintro e w4 ⟨c', cc', rfl, rc, hb4⟩
        have B4 := hideIt (bel2 B3.out hb4)
        replace RA := hideIt (RA.out.below hb4)
        replace RB := hideIt (RB.out.below hb4)
        have RC := hideIt rc
        clear hb4 rc B3 HA HB HC
        have m1 := mk27 n (by omega)
        have m2 := mk37 n (by omega)
        have m3 := mk22 n (by omega)
        go_wp2_with (go_at_call 10; refine (new_any _).mono ?_; rintro e w5 ⟨rfl, rfl⟩)
        clear m1 m2 m3
        have HS0 := hideIt (keep_start w4 n N z m bz sz)
        have B5 := hideIt B4.out.size
        have hRz : w4.heap.size + 5 ≤ (((((w4.alloc (.cells #[.int .i64 1, .slice none 0 0, .pointer none] 30)).alloc (.cells (zeroRow (.pointer none) n) 28)).alloc (.cells (zeroRow (.string ⟨#[]⟩) n) 9)).alloc (.cells (zeroRow (.int .i64 0) n) 3)).alloc (.cells (zeroRow (.int .i64 0) n) 3)).heap.size := by simp
        have o1 : w4.heap.size < w4.heap.size + 1 := by omega
        have o2 : w4.heap.size + 1 < w4.heap.size + 1 + 1 := by omega
        have o3 : w4.heap.size + 1 + 1 < w4.heap.size + 1 + 1 + 1 := by omega
        have o4 : w4.heap.size + 1 + 1 + 1 < w4.heap.size + 1 + 1 + 1 + 1 := by omega
        have o5 : w4.heap.size + 1 + 1 + 1 + 1 < w4.heap.size + 5 := by omega
        generalize (((((w4.alloc (.cells #[.int .i64 1, .slice none 0 0, .pointer none] 30)).alloc (.cells (zeroRow (.pointer none) n) 28)).alloc (.cells (zeroRow (.string ⟨#[]⟩) n) 9)).alloc (.cells (zeroRow (.int .i64 0) n) 3)).alloc (.cells (zeroRow (.int .i64 0) n) 3)) = w5 at *
        generalize w4.heap.size + 5 = R at *
        generalize w4.heap.size + 1 + 1 + 1 + 1 = F4 at *
        generalize w4.heap.size + 1 + 1 + 1 = F3 at *
        generalize w4.heap.size + 1 + 1 = F2 at *
        generalize w4.heap.size + 1 = F1 at *
        generalize hsd : w4.heap.size = s at *
        have HSD := hideIt hsd
        clear hsd
        go_loopw [15, 16] (fun p i wr => ∃ (k : Nat) (q : Nat → Nat), k ≤ n ∧ i = .int .i64 (k : Int) ∧ p = .int .i64 (nxt m bz sz k) ∧ AS w4 wr R s F1 F2 F3 F4 n k q N z m bz sz) (fun _ i _ => n - (intOf i).toNat)
        case atStart => exact ⟨0, _, Nat.zero_le _, rfl, rfl, HS0.out⟩
        case round =>
          obtain ⟨k, q, hk, rfl, rfl, hr⟩ := hrel
          have HR := hideIt hr
          clear hr
          by_cases hlt : k < n
          · obtain ⟨b3, off3, e3, hc3⟩ := RC.out k hlt
            subst e3
            have c3 : wr.cell? ⟨b3, off3 + k, none⟩ = some (.int .i64 (sz k)) := by rw [HR.out.bel.cell (p := ⟨b3, off3 + k, none⟩) (by have := lt_of_cell hc3; rw [HSD.out] at this; exact this)]; exact hc3
            clear hc3
            by_cases hkN : k < N
            · obtain ⟨b1, off1, e1, hc1⟩ := RA.out k hkN
              subst e1
              have c1 : wr.cell? ⟨b1, off1 + k, none⟩ = some (.string (z k)) := by rw [HR.out.bel.cell (p := ⟨b1, off1 + k, none⟩) (by have := lt_of_cell hc1; rw [HSD.out] at this; exact this)]; exact hc1
              clear hc1
              by_cases hkm : k < m
              · obtain ⟨b2, off2, e2, hc2⟩ := RB.out k hkm
                subst e2
                have c2 : wr.cell? ⟨b2, off2 + k, none⟩ = some (.int .i64 (bz k)) := by rw [HR.out.bel.cell (p := ⟨b2, off2 + k, none⟩) (by have := lt_of_cell hc2; rw [HSD.out] at this; exact this)]; exact hc2
                clear hc2
                go_wp2_with fail
                obtain ⟨v, l, last, hh⟩ := HR.out.hs
                refine (add_script hh HO.out hlt (by omega) (nmv := z k) (bv := bz k) (if_pos hkN) (if_pos hkm)).mono ?_
                rintro e w1' ⟨v', Q, L, rfl, hs', hkp⟩
                obtain ⟨hr', ht⟩ := HR.out.step hlt o1 o2 o3 o4 o5 hs' hkp
                have HR' := hideIt hr'
                have HT := hideIt ht
                clear hr' hs' hkp hh HR ht
                have q1 := HT.out.q1
                have q2 := HT.out.q2
                have q3 := HT.out.q3
                have s0 := HT.out.s0
                obtain ⟨y1, h1⟩ := HT.out.h1
                obtain ⟨y2, h2⟩ := HT.out.h2
                obtain ⟨y3, h3⟩ := HT.out.h3
                obtain ⟨y4, h4⟩ := HT.out.h4
                have r1 := HT.out.r1
                have r2 := HT.out.r2
                have r3 := HT.out.r3
                have r4 := HT.out.r4
                have rq := HT.out.rq
                have g1 := (HO.out k hlt).2.1
                have g2 : decide (nxt m bz sz (k + 1) ≤ mb m bz sz k + sz k) = false := by rw [nxt_succ]; simp; omega
                have g3 := HO.out k hlt
                have g5 := (HO.out.le (Nat.le_of_lt hlt)).bounds
                by_cases hb0 : bz k < 0
                · have g4 : (mb m bz sz k == nxt m bz sz k) = true := by unfold mb raw; rw [if_pos hkm, if_pos hb0]; simp
                  generalize mb m bz sz k = B0 at *
                  generalize hX1 : nxt m bz sz (k + 1) = X1 at *
                  have HX := hideIt hX1
                  clear hX1
                  go_wp2
                  go_quiet (fail)
                  go_wp2
                  go_roundw
                  case rel => exact ⟨k + 1, _, by omega, by go_num, by rw [HX.out], HR'.out.draws _⟩
                  case measure => simp [intOf]; omega
                · have g4 : (mb m bz sz k == bz k) = true := by unfold mb raw; rw [if_pos hkm, if_neg hb0]; simp
                  generalize mb m bz sz k = B0 at *
                  generalize hX1 : nxt m bz sz (k + 1) = X1 at *
                  have HX := hideIt hX1
                  clear hX1
                  go_wp2
                  go_quiet (fail)
                  go_wp2
                  go_roundw
                  case rel => exact ⟨k + 1, _, by omega, by go_num, by rw [HX.out], HR'.out.draws _⟩
                  case measure => simp [intOf]; omega
              · have g4 : (mb m bz sz k == nxt m bz sz k) = true := by unfold mb raw; rw [if_neg hkm, if_pos (by decide)]; simp
                go_wp2_with fail
                obtain ⟨v, l, last, hh⟩ := HR.out.hs
                refine (add_script hh HO.out hlt (by omega) (nmv := z k) (bv := -1) (if_pos hkN) (if_neg hkm)).mono ?_
                rintro e w1' ⟨v', Q, L, rfl, hs', hkp⟩
                obtain ⟨hr', ht⟩ := HR.out.step hlt o1 o2 o3 o4 o5 hs' hkp
                have HR' := hideIt hr'
                have HT := hideIt ht
                clear hr' hs' hkp hh HR ht
                have q1 := HT.out.q1
                have q2 := HT.out.q2
                have q3 := HT.out.q3
                have s0 := HT.out.s0
                obtain ⟨y1, h1⟩ := HT.out.h1
                obtain ⟨y2, h2⟩ := HT.out.h2
                obtain ⟨y3, h3⟩ := HT.out.h3
                obtain ⟨y4, h4⟩ := HT.out.h4
                have r1 := HT.out.r1
                have r2 := HT.out.r2
                have r3 := HT.out.r3
                have r4 := HT.out.r4
                have rq := HT.out.rq
                have g1 := (HO.out k hlt).2.1
                have g2 : decide (nxt m bz sz (k + 1) ≤ mb m bz sz k + sz k) = false := by rw [nxt_succ]; simp; omega
                have g3 := HO.out k hlt
                have g5 := (HO.out.le (Nat.le_of_lt hlt)).bounds
                generalize mb m bz sz k = B0 at *
                generalize hX1 : nxt m bz sz (k + 1) = X1 at *
                have HX := hideIt hX1
                clear hX1
                go_wp2
                go_quiet (fail)
                go_wp2
                go_roundw
                case rel => exact ⟨k + 1, _, by omega, by go_num, by rw [HX.out], HR'.out.draws _⟩
                case measure => simp [intOf]; omega
            · skip
              by_cases hkm : k < m
              · obtain ⟨b2, off2, e2, hc2⟩ := RB.out k hkm
                subst e2
                have c2 : wr.cell? ⟨b2, off2 + k, none⟩ = some (.int .i64 (bz k)) := by rw [HR.out.bel.cell (p := ⟨b2, off2 + k, none⟩) (by have := lt_of_cell hc2; rw [HSD.out] at this; exact this)]; exact hc2
                clear hc2
                go_wp2_with fail
                obtain ⟨v, l, last, hh⟩ := HR.out.hs
                refine (add_script hh HO.out hlt (by omega) (nmv := ⟨#[]⟩) (bv := bz k) (if_neg hkN) (if_pos hkm)).mono ?_
                rintro e w1' ⟨v', Q, L, rfl, hs', hkp⟩
                obtain ⟨hr', ht⟩ := HR.out.step hlt o1 o2 o3 o4 o5 hs' hkp
                have HR' := hideIt hr'
                have HT := hideIt ht
                clear hr' hs' hkp hh HR ht
                have q1 := HT.out.q1
                have q2 := HT.out.q2
                have q3 := HT.out.q3
                have s0 := HT.out.s0
                obtain ⟨y1, h1⟩ := HT.out.h1
                obtain ⟨y2, h2⟩ := HT.out.h2
                obtain ⟨y3, h3⟩ := HT.out.h3
                obtain ⟨y4, h4⟩ := HT.out.h4
                have r1 := HT.out.r1
                have r2 := HT.out.r2
                have r3 := HT.out.r3
                have r4 := HT.out.r4
                have rq := HT.out.rq
                have g1 := (HO.out k hlt).2.1
                have g2 : decide (nxt m bz sz (k + 1) ≤ mb m bz sz k + sz k) = false := by rw [nxt_succ]; simp; omega
                have g3 := HO.out k hlt
                have g5 := (HO.out.le (Nat.le_of_lt hlt)).bounds
                by_cases hb0 : bz k < 0
                · have g4 : (mb m bz sz k == nxt m bz sz k) = true := by unfold mb raw; rw [if_pos hkm, if_pos hb0]; simp
                  generalize mb m bz sz k = B0 at *
                  generalize hX1 : nxt m bz sz (k + 1) = X1 at *
                  have HX := hideIt hX1
                  clear hX1
                  go_wp2
                  go_quiet (fail)
                  go_wp2
                  go_roundw
                  case rel => exact ⟨k + 1, _, by omega, by go_num, by rw [HX.out], HR'.out.draws _⟩
                  case measure => simp [intOf]; omega
                · have g4 : (mb m bz sz k == bz k) = true := by unfold mb raw; rw [if_pos hkm, if_neg hb0]; simp
                  generalize mb m bz sz k = B0 at *
                  generalize hX1 : nxt m bz sz (k + 1) = X1 at *
                  have HX := hideIt hX1
                  clear hX1
                  go_wp2
                  go_quiet (fail)
                  go_wp2
                  go_roundw
                  case rel => exact ⟨k + 1, _, by omega, by go_num, by rw [HX.out], HR'.out.draws _⟩
                  case measure => simp [intOf]; omega
              · have g4 : (mb m bz sz k == nxt m bz sz k) = true := by unfold mb raw; rw [if_neg hkm, if_pos (by decide)]; simp
                go_wp2_with fail
                obtain ⟨v, l, last, hh⟩ := HR.out.hs
                refine (add_script hh HO.out hlt (by omega) (nmv := ⟨#[]⟩) (bv := -1) (if_neg hkN) (if_neg hkm)).mono ?_
                rintro e w1' ⟨v', Q, L, rfl, hs', hkp⟩
                obtain ⟨hr', ht⟩ := HR.out.step hlt o1 o2 o3 o4 o5 hs' hkp
                have HR' := hideIt hr'
                have HT := hideIt ht
                clear hr' hs' hkp hh HR ht
                have q1 := HT.out.q1
                have q2 := HT.out.q2
                have q3 := HT.out.q3
                have s0 := HT.out.s0
                obtain ⟨y1, h1⟩ := HT.out.h1
                obtain ⟨y2, h2⟩ := HT.out.h2
                obtain ⟨y3, h3⟩ := HT.out.h3
                obtain ⟨y4, h4⟩ := HT.out.h4
                have r1 := HT.out.r1
                have r2 := HT.out.r2
                have r3 := HT.out.r3
                have r4 := HT.out.r4
                have rq := HT.out.rq
                have g1 := (HO.out k hlt).2.1
                have g2 : decide (nxt m bz sz (k + 1) ≤ mb m bz sz k + sz k) = false := by rw [nxt_succ]; simp; omega
                have g3 := HO.out k hlt
                have g5 := (HO.out.le (Nat.le_of_lt hlt)).bounds
                generalize mb m bz sz k = B0 at *
                generalize hX1 : nxt m bz sz (k + 1) = X1 at *
                have HX := hideIt hX1
                clear hX1
                go_wp2
                go_quiet (fail)
                go_wp2
                go_roundw
                case rel => exact ⟨k + 1, _, by omega, by go_num, by rw [HX.out], HR'.out.draws _⟩
                case measure => simp [intOf]; omega
          · have e : k = n := by omega
            subst e
            obtain ⟨wo, ewo⟩ : ∃ wo : World, wo = wr := ⟨_, rfl⟩
            subst ewo
            have HBL := hideIt (B4.out.trans (HR.out.bel.mono B5.out))
            go_wp2
            go_loopw [20] (fun i w' => ∃ (j d : Nat), j ≤ k ∧ i = .int .i64 (j : Int) ∧ w' = wo.drewN d) (fun i _ => k - (intOf i).toNat)
            case atStart => exact ⟨0, 0, Nat.zero_le _, rfl, rfl⟩
            case round =>
              obtain ⟨j, d, hj, rfl, rfl⟩ := hrel
              obtain ⟨v, l, last, hh⟩ := HR.out.hs
              have s0 : wo.cell? ⟨s, 0, none⟩ = some (.int .i64 (nxt m bz sz k)) := cell_of_obj hh.set 0
              by_cases hjl : j < k
              · have x1 : wo.cell? ⟨F1, j, none⟩ = some (.pointer (some ⟨q j, 0, none⟩)) := HR.out.f1.done j hjl
                have x2 : wo.cell? ⟨F2, j, none⟩ = some (.string (nmf N z j)) := HR.out.f2.done j hjl
                have x3 : wo.cell? ⟨F3, j, none⟩ = some (.int .i64 (mb m bz sz j)) := HR.out.f3.done j hjl
                have fo := hh.file j hjl
                have y1 : wo.cell? ⟨q j, 1, none⟩ = some (.string (nmf N z j)) := cell_of_obj fo 1
                have y2 : wo.cell? ⟨q j, 2, none⟩ = some (.int .i64 (mb m bz sz j)) := cell_of_obj fo 2
                have y3 : wo.cell? ⟨q j, 3, none⟩ = some (.int .i64 (sz j)) := cell_of_obj fo 3
                have y4 : wo.cell? ⟨q j, 4, none⟩ = some (.slice (some ⟨l j, 0, none⟩) 1 1) := cell_of_obj fo 4
                have y5 : wo.cell? ⟨l j, 0, none⟩ = some (.int .i64 0) := cell_of_obj (hh.line j hjl) 0
                obtain ⟨b3, off3, e3, hc3⟩ := RC.out j hjl
                subst e3
                have c3 : wo.cell? ⟨b3, off3 + j, none⟩ = some (.int .i64 (sz j)) := by rw [HR.out.bel.cell (p := ⟨b3, off3 + j, none⟩) (by have := lt_of_cell hc3; rw [HSD.out] at this; exact this)]; exact hc3
                have d1 : decide (nxt m bz sz k ≤ mb m bz sz j + sz j) = false := by have := HO.out.below hjl (Nat.le_refl _); simp; omega
                have g3 := HO.out j hjl
                have g5 := (HO.out.le (Nat.le_of_lt hjl)).bounds
                clear hc3 fo hh
                by_cases hj0 : j = 0
                · have d0 : decide (0 < j) = false := by simp; omega
                  clear hj0
                  go_wp2
                  go_quiet (fail)
                  go_wp2
                  go_quiet (fail)
                  go_wp2
                  go_quiet (fail)
                  go_wp2
                  go_roundw
                  case rel => exact ⟨j + 1, _, by omega, by go_num, rfl⟩
                  case measure => simp [intOf]; omega
                · obtain ⟨i, rfl⟩ : ∃ i, j = i + 1 := ⟨j - 1, by omega⟩
                  have hil : i < k := by omega
                  have u1 : wo.cell? ⟨F1, i, none⟩ = some (.pointer (some ⟨q i, 0, none⟩)) := HR.out.f1.done i hil
                  obtain ⟨v, l, last, hh⟩ := HR.out.hs
                  have u2 : wo.cell? ⟨q i, 2, none⟩ = some (.int .i64 (mb m bz sz i)) := cell_of_obj (hh.file i hil) 2
                  have u3 : wo.cell? ⟨q i, 3, none⟩ = some (.int .i64 (sz i)) := cell_of_obj (hh.file i hil) 3
                  have d0 : decide (0 < ((i : Int) + 1)) = true := by rw [decide_eq_true_eq]; omega
                  have d2 : decide (mb m bz sz (i + 1) ≤ mb m bz sz i + sz i) = false := by
                    have k1 := HO.out.below (i := i) (j := i + 1) (by omega) (by omega)
                    have k2 := g3.2.1
                    simp; omega
                  have g6 := HO.out i hil
                  have g7 := (HO.out.le (Nat.le_of_lt hil)).bounds
                  clear hj0 hh
                  go_wp2
                  go_quiet (fail)
                  go_wp2
                  go_quiet (fail)
                  go_wp2
                  go_quiet (fail)
                  go_wp2
                  go_roundw
                  case rel => exact ⟨i + 1 + 1, _, by omega, by go_num, rfl⟩
                  case measure => simp [intOf]; omega
              · by_cases hk0 : k = 0
                · have z1 : ((k : Int) == 0) = true := by simp; omega
                  have z2 : (nxt m bz sz k == 1) = true := by rw [hk0]; rfl
                  clear hk0 hh
                  go_wp2
                  go_ret
                  exact ⟨rfl, below_drewN HBL.out _⟩
                · obtain ⟨i, rfl⟩ : ∃ i, k = i + 1 := ⟨k - 1, by omega⟩
                  have u4 : wo.cell? ⟨F4, i, none⟩ = some (.int .i64 (nxt m bz sz (i + 1))) := HR.out.f4.done i (by omega)
                  have z1 : ((i : Int) + 1 == 0) = false := by rw [beq_eq_false_iff_ne]; omega
                  clear hk0 hh
                  go_wp2
                  go_quiet (fail)
                  go_wp2
                  go_ret
                  exact ⟨rfl, below_drewN (below_drewN HBL.out _) _⟩

theorem keep_any (a b c : Option Addr) (N m n ca cb cc : Nat) (z : Nat → ByteArray) (bz sz : Nat → Int) (w : World) (ha : StrArg w a N ca z) (hb : IntArg w b m cb bz) (hc : IntArg w c n cc sz) :
    Calls Edig.prog 5 #[.slice a N ca, .slice b m cb, .slice c n cc] w fun e w' => e = .returned (.bool true) ∧ Below w.heap.size w w' := by
  by_cases h : N ≤ 65536 ∧ m ≤ 131072 ∧ n ≤ 4096
  · exact keep_core a b c N m n ca cb cc z bz sz w h.1 h.2.1 h.2.2 ha hb hc
  · exact keep_long a b c N m n ca cb cc z w ha.max hb.max hc.max ha.row h

end Go.Proofs.Yoediw
