/-
  The walk of FnFileSoundAndOrderFree (function 7).
-/
import Derived.Test.YoediwLookups
import Derived.Deep.RegionHeld3
namespace Go.Proofs.Yoediw
open Go.RowKit

set_option maxRecDepth 100000 in
set_option maxHeartbeats 1000000 in
theorem sound_long (a b c : Option Addr) (m n P ca cb cc : Nat) (w : World) (h1 : m ≤ maxLen) (h2 : n ≤ maxLen) (h3 : P ≤ maxLen) (h : ¬ (m ≤ 131072 ∧ n ≤ 4096 ∧ P ≤ 4096 ∧ 8 * m + 8 * n + 8 * P ≤ 1048576)) :
    Calls Edig.prog 7 #[.slice a m ca, .slice b n cb, .slice c P cc] w fun e w' => e = .returned (.bool true) ∧ Below w.heap.size w w' := by
  have HC := hideIt (bytes20 a b c m n P ca cb cc w h1 h2 h3)
  unfold maxLen at h1 h2 h3
  go_enter Edig.func7, Edig.ntmps7
  go_wp2_with fail
  refine HC.out.mono ?_
  rintro e w' ⟨⟨r, rfl⟩, rfl⟩
  clear HC
  cases r
  · go_wp2
    go_ret
    exact ⟨rfl, Below.refl _ _⟩
  · by_cases g1 : 131072 < m
    · clear h
      go_wp2
      go_ret
      exact ⟨rfl, Below.refl _ _⟩
    · by_cases g2 : 4096 < n
      · clear h
        go_wp2
        go_ret
        exact ⟨rfl, Below.refl _ _⟩
      · by_cases g3 : 4096 < P
        · clear h
          go_wp2
          go_ret
          exact ⟨rfl, Below.refl _ _⟩
        · have g4 : 1048576 < 8 * m + 8 * n + 8 * P := by omega
          clear h
          go_wp2
          go_ret
          exact ⟨rfl, Below.refl _ _⟩

set_option maxRecDepth 100000 in
set_option maxHeartbeats 4000000 in
theorem sound_core (a b c : Option Addr) (m n P ca cb cc : Nat) (bz sz pz : Nat → Int) (w : World) (hm : m ≤ 131072) (hn : n ≤ 4096) (hP : P ≤ 4096) (h8 : 8 * m + 8 * n + 8 * P ≤ 1048576)
    (ha : IntArg w a m ca bz) (hb : IntArg w b n cb sz) (hc : IntArg w c P cc pz) :
    Calls Edig.prog 7 #[.slice a m ca, .slice b n cb, .slice c P cc] w fun e w' => e = .returned (.bool true) ∧ Below w.heap.size w w' := by
  have HA := hideIt ha
  have HB := hideIt hb
  have HC := hideIt hc
  clear ha hb hc
  go_enter Edig.func7, Edig.ntmps7
  go_wp2_with fail
  refine (bytes20 a b c m n P ca cb cc _ HA.out.max HB.out.max HC.out.max).mono ?_
  rintro e w' ⟨⟨r, rfl⟩, rfl⟩
  cases r
  · go_wp2
    go_ret
    exact ⟨rfl, Below.refl _ _⟩
  · go_wp2_with fail
    refine (model_any a m ca b n cb bz sz _ (by omega) (by omega) HA.out HB.out).mono ?_
    rintro e w1 (⟨rfl, hb1⟩ | ⟨rfl, hok, _, hb1, _⟩)
    · go_wp2
      go_ret
      exact ⟨rfl, hb1⟩
    · have B1 := hideIt hb1
      have HO := hideIt hok
      clear hb1 hok
      go_wp2_with fail
      refine (clone_any a m ca bz _ (by omega) HA.out.nil (by exact HA.out.row.below B1.out)).mono ?_
      rintro e w2 ⟨a', ca', rfl, ra, hb2⟩
      have B2 := hideIt (bel2 B1.out hb2)
      have RA := hideIt ra
      clear hb2 ra B1
      go_wp2_with fail
      refine (clone_any b n cb sz _ (by omega) HB.out.nil (by exact HB.out.row.below B2.out)).mono ?_
      rintro e w3 ⟨b', cb', rfl, rb, hb3⟩
      have B3 := hideIt (bel2 B2.out hb3)
      replace RA := hideIt (RA.out.below hb3)
      have RB := hideIt rb
      clear hb3 rb B2
      go_wp2_with fail
      refine (clone_any c P cc pz _ (by omega) HC.out.nil (by exact HC.out.row.below B3.out)).mono ?_
      rintro e w4 ⟨c', cc', rfl, rc, hb4⟩
      have B4 := hideIt (bel2 B3.out hb4)
      replace RA := hideIt (RA.out.below hb4)
      replace RB := hideIt (RB.out.below hb4)
      have RC := hideIt rc
      clear hb4 rc B3 HA HB HC
      go_wp2_with fail
      refine (run_any none a' b' 0 m n 0 ca' cb' (fun _ => ⟨#[]⟩) bz sz _ (by omega) (by omega) (by omega) (RowV.nil _ _ _) RA.out RB.out HO.out).mono ?_
      rintro e w5 ⟨q, rfl, hrs⟩
      have HR := hideIt hrs
      clear hrs
      obtain ⟨v, l, last, hh⟩ := HR.out.hs
      obtain ⟨fa, fcap, e5, hfs⟩ := hh.fs
      subst e5
      have c0 := hfs.cbase
      have HF := hideIt hfs
      clear hh hfs
      have m1 := mk27 P (by omega)
      go_wp2
      clear m1 c0
      have hsw : w'.heap.size ≤ w4.heap.size := B4.out.size
      have RB6 := hideIt ((RB.out.bound HR.out.bel).below ((Below.refl w4.heap.size w5).alloc HR.out.bel.size (.cells (zeroRow (.pointer none) P) 28)))
      have RC6 := hideIt ((RC.out.bound HR.out.bel).below ((Below.refl w4.heap.size w5).alloc HR.out.bel.size (.cells (zeroRow (.pointer none) P) 28)))
      have BN := hideIt HF.out.bnd
      have hR5 : w4.heap.size + 2 ≤ w5.heap.size := by obtain ⟨v, l, last, hh⟩ := HR.out.hs; exact hh.rW
      have FI := hideIt (HR.out.fill.keep (Below.heap_alloc w5 (.cells (zeroRow (.pointer none) P) 28) (w4.heap.size + 1) (by omega)))
      have P0 := hideIt (show PH (w5.alloc (.cells (zeroRow (.pointer none) P) 28)) (w5.alloc (.cells (zeroRow (.pointer none) P) 28)) w5.heap.size w4.heap.size fa fcap n q (mb m bz sz) sz (nxt m bz sz n) from ⟨KpR.refl _ _ _, ⟨_, HF.out.below ((Below.refl _ w5).alloc (Nat.le_refl _) _)⟩, by simp⟩)
      have G0 := hideIt (Fill.start w5 (.pointer none) P 28 (fun j => .pointer (ans q (mb m bz sz) sz n (pz j))))
      have BW := hideIt ((B4.out.trans (HR.out.bel.mono hsw)).trans (((Below.refl _ w5).alloc (Nat.le_refl _) (.cells (zeroRow (.pointer none) P) 28)).mono (by omega)))
      have GD := hideIt (HO.out.good (by omega))
      clear RA RB RC B4 HR HF
      generalize w5.alloc (.cells (zeroRow (.pointer none) P) 28) = w6 at *
      generalize w4.heap.size = s at *
      generalize w5.heap.size = G at *
      generalize hB : nxt m bz sz n = B at *
      clear hB HO
      generalize mb m bz sz = base at *
      go_loopw [14] (fun i wr => ∃ k : Nat, k ≤ P ∧ i = .int .i64 (k : Int) ∧ PH w6 wr G s fa fcap n q base sz B ∧ Fill G P k (fun j => .pointer (ans q base sz n (pz j))) wr) (fun i _ => P - (intOf i).toNat)
      case atStart => exact ⟨0, Nat.zero_le _, rfl, P0.out, G0.out⟩
      case round =>
        obtain ⟨k, hk, rfl, hph, hfill⟩ := hrel
        have HP := hideIt hph
        have HG := hideIt hfill
        clear hph hfill
        have hGs : s < G := BN.out.sG
        by_cases hlt : k < P
        · obtain ⟨b3, off3, e3, hb3, hc3⟩ := RC6.out k hlt
          subst e3
          have c3 : wr.cell? ⟨b3, off3 + k, none⟩ = some (.int .i64 (pz k)) := HP.out.kr.cell (by omega) (by omega) hc3
          clear hc3
          go_wp2_with fail
          refine (File_ph HP.out GD.out (pz k)).mono ?_
          rintro e w7 ⟨rfl, hp7, hk7⟩
          have HP7 := hideIt hp7
          have HG7 := hideIt (fill_kp HG.out hk7 HP.out.gz (by omega))
          clear hp7 hk7 HP HG
          obtain ⟨x, hx⟩ := HG7.out.has k hlt
          have hfz := HG7.out.free k hlt
          cases hlk : look base sz (pz k) n with
          | none =>
            have ea : ans q base sz n (pz k) = none := by unfold ans; rw [hlk]; rfl
            have HN := hideIt (HG7.out.put hlt)
            rw [ea] at HN ⊢
            clear hlk ea
            go_wp2
            go_quiet (fail)
            go_wp2
            go_roundw
            case rel => exact ⟨k + 1, by omega, by go_num, (HP7.out.setG BN.out k _).draws _, HN.out.keep rfl⟩
            case measure => simp [intOf] <;> omega
          | some i =>
            have ea : ans q base sz n (pz k) = some ⟨q i, 0, none⟩ := by unfold ans; rw [hlk]; rfl
            have HN := hideIt (HG7.out.put hlt)
            rw [ea] at HN ⊢
            obtain ⟨hi, hin⟩ := look_some hlk
            obtain ⟨last, hf⟩ := HP7.out.fs
            have y2 := hf.fbase i hi
            have y3 := hf.fsize i hi
            have d1 : decide (pz k < base i) = false := by have := hin.1; simp; omega
            have d2 : decide (base i + sz i < pz k) = false := by have := hin.2; simp; omega
            have g1 := GD.out.fit i hi
            have g2 := GD.out.ord.1 i hi
            clear hlk ea hf hin
            go_wp2
            go_quiet (fail)
            go_wp2
            go_roundw
            case rel => exact ⟨k + 1, by omega, by go_num, (HP7.out.setG BN.out k _).draws _, HN.out.keep rfl⟩
            case measure => simp [intOf] <;> omega
        · have e : k = P := by omega
          subst e
          have hns := neq_self
          go_wp2
          obtain ⟨wo, ewo⟩ : ∃ wo : World, wo = wr := ⟨_, rfl⟩
          subst ewo
          go_loopw [17] (fun i w' => ∃ j : Nat, j ≤ k ∧ i = .int .i64 ((j : Int) - 1) ∧ PH w6 w' G s fa fcap n q base sz B ∧ Fill G k k (fun j => .pointer (ans q base sz n (pz j))) w') (fun i _ => (intOf i + 1).toNat)
          case atStart => exact ⟨k, Nat.le_refl _, rfl, HP.out, HG.out⟩
          case round =>
            obtain ⟨j, hj, rfl, hph, hfill⟩ := hrel
            have HP := hideIt hph
            have HG := hideIt hfill
            clear hph hfill
            cases j with
            | succ j =>
              have hjk : j < k := by omega
              obtain ⟨b3, off3, e3, hb3, hc3⟩ := RC6.out j hjk
              subst e3
              have c3 : wr.cell? ⟨b3, off3 + j, none⟩ = some (.int .i64 (pz j)) := HP.out.kr.cell (by omega) (by omega) hc3
              have cG : wr.cell? ⟨G, j, none⟩ = some (.pointer (ans q base sz n (pz j))) := HG.out.done j hjk
              have hbs : b3 ≠ s := by omega
              have hGs' : G ≠ s := by omega
              have HST := hideIt (held_start HP.out HG.out c3 cG)
              clear hc3
              go_wp2
              go_region_held3 (fun w' => w'.cell? ⟨b3, off3 + j, none⟩ = some (.int .i64 (pz j)) ∧ w'.cell? ⟨G, j, none⟩ = some (.pointer (ans q base sz n (pz j))) ∧ State w6 w' G s fa fcap n q base sz B k (fun j => .pointer (ans q base sz n (pz j))))
                (first | exact HST.out | exact held_next (by assumption) (by assumption) (by assumption) hbs hGs')
                (first | (go_at_call 11; refine (File_ph (And.left (And.right (And.right (by assumption)))) GD.out (pz j)).mono ?_; rintro e w7 ⟨rfl, hp7, hk7⟩))
              have HN := hideIt (held_next HST.out hp7 hk7 hbs hGs').2.2
              clear hp7 hk7 HST HP HG c3 cG
              go_wp2
              go_roundw
              case rel => exact ⟨j, by omega, by go_num, HN.out⟩
              case measure => simp [intOf] <;> omega
            | zero =>
              go_wp2
              obtain ⟨wo2, ewo2⟩ : ∃ wo2 : World, wo2 = wr := ⟨_, rfl⟩
              subst ewo2
              go_loopw [18] (fun i w' => ∃ j : Nat, j ≤ k ∧ i = .int .i64 (j : Int) ∧ PH w6 w' G s fa fcap n q base sz B ∧ Fill G k k (fun j => .pointer (ans q base sz n (pz j))) w') (fun i _ => k - (intOf i).toNat)
              case atStart => exact ⟨0, Nat.zero_le _, rfl, HP.out, HG.out⟩
              case round =>
                obtain ⟨j, hj, rfl, hph, hfill⟩ := hrel
                have HP := hideIt hph
                have HG := hideIt hfill
                clear hph hfill
                by_cases hjk : j < k
                · skip
                  obtain ⟨b3, off3, e3, hb3, hc3⟩ := RC6.out j hjk
                  subst e3
                  have c3 : wr.cell? ⟨b3, off3 + j, none⟩ = some (.int .i64 (pz j)) := HP.out.kr.cell (by omega) (by omega) hc3
                  have cG : wr.cell? ⟨G, j, none⟩ = some (.pointer (ans q base sz n (pz j))) := HG.out.done j hjk
                  have hbs : b3 ≠ s := by omega
                  have hGs' : G ≠ s := by omega
                  have HST := hideIt (held_start HP.out HG.out c3 cG)
                  clear hc3
                  go_wp2
                  go_region_held3 (fun w' => w'.cell? ⟨b3, off3 + j, none⟩ = some (.int .i64 (pz j)) ∧ w'.cell? ⟨G, j, none⟩ = some (.pointer (ans q base sz n (pz j))) ∧ State w6 w' G s fa fcap n q base sz B k (fun j => .pointer (ans q base sz n (pz j))))
                    (first | exact HST.out | exact held_next (by assumption) (by assumption) (by assumption) hbs hGs')
                    (first | (go_at_call 11; refine (File_ph (And.left (And.right (And.right (by assumption)))) GD.out (pz j)).mono ?_; rintro e w7 ⟨rfl, hp7, hk7⟩))
                  have HN := hideIt (held_next HST.out hp7 hk7 hbs hGs').2.2
                  clear hp7 hk7 HST HP HG c3 cG
                  go_wp2
                  go_roundw
                  case rel => first | exact ⟨j + 1, by omega, by go_num, HN.out⟩ | ((repeat apply Exists.intro); exact ⟨⟨j + 1, by omega, by go_num, HN.out⟩, rfl⟩)
                  case measure => simp [intOf] <;> omega
                · obtain ⟨last2, hf⟩ := HP.out.fs
                  have c0 := hf.cbase
                  have c1 := hf.cfiles
                  go_wp2
                  obtain ⟨wo3, ewo3⟩ : ∃ wo3 : World, wo3 = wr := ⟨_, rfl⟩
                  subst ewo3
                  have FI3 := hideIt (FI.out.keep (HP.out.kr.block (s + 1) (by omega) (by omega)))
                  have HF3 := hideIt hf
                  have BW3 := hideIt (BW.out.trans (HP.out.kr.below (B := w'.heap.size) hsw (by omega)))
                  have RB3 := hideIt (RB6.out.below (HP.out.kr.below (B := s) (Nat.le_refl _) (by omega)))
                  clear hf HG HP
                  go_loopw [19] (fun i w' => ∃ j d : Nat, j ≤ n ∧ i = .int .i64 (j : Int) ∧ w' = wo3.drewN d) (fun i _ => n - (intOf i).toNat)
                  case atStart => exact ⟨0, 0, Nat.zero_le _, rfl, rfl⟩
                  case round =>
                    obtain ⟨i, d, hi, rfl, rfl⟩ := hrel
                    by_cases hin : i < n
                    · have x1 : wo3.cell? ⟨s + 1, i, none⟩ = some (.pointer (some ⟨q i, 0, none⟩)) := FI3.out.done i hin
                      obtain ⟨b1, off1, e1, x2⟩ := HF3.out.row i hin
                      subst e1
                      have x3 := HF3.out.fsize i hin
                      obtain ⟨b2, off2, e2, _, x4⟩ := RB3.out i hin
                      subst e2
                      go_wp2
                      go_quiet (fail)
                      go_wp2
                      go_roundw
                      case rel => first | exact ⟨i + 1, _, by omega, by go_num, rfl⟩ | ((repeat apply Exists.intro); exact ⟨⟨i + 1, _, by omega, by go_num, rfl⟩, rfl⟩)
                      case measure => simp [intOf] <;> omega
                    · go_wp2
                      go_ret
                      exact ⟨rfl, below_drewN BW3.out _⟩

theorem sound_any (a b c : Option Addr) (m n P ca cb cc : Nat) (bz sz pz : Nat → Int) (w : World) (ha : IntArg w a m ca bz) (hb : IntArg w b n cb sz) (hc : IntArg w c P cc pz) :
    Calls Edig.prog 7 #[.slice a m ca, .slice b n cb, .slice c P cc] w fun e w' => e = .returned (.bool true) ∧ Below w.heap.size w w' := by
  by_cases h : m ≤ 131072 ∧ n ≤ 4096 ∧ P ≤ 4096 ∧ 8 * m + 8 * n + 8 * P ≤ 1048576
  · exact sound_core a b c m n P ca cb cc bz sz pz w h.1 h.2.1 h.2.2.1 h.2.2.2 ha hb hc
  · exact sound_long a b c m n P ca cb cc w ha.max hb.max hc.max h

end Go.Proofs.Yoediw
