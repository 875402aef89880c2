/-
  The walk of FnFileAgreesWithLinearScan (function 6).
-/
import Derived.Test.YoediwLookups
import Derived.Deep.RegionHeld3
namespace Go.Proofs.Yoediw
open Go.RowKit

set_option maxRecDepth 100000 in
set_option maxHeartbeats 1000000 in
theorem scan_long (a b c d : Option Addr) (N m n P ca cb cc cd : Nat) (z : Nat → ByteArray) (w : World) (h1 : N ≤ maxLen) (h2 : m ≤ maxLen) (h3 : n ≤ maxLen) (h4 : P ≤ maxLen) (hr : RowV w a N (fun j => .string (z j))) (h : ¬ (N ≤ 65536 ∧ m ≤ 131072 ∧ n ≤ 4096 ∧ P ≤ 4096)) :
    Calls Edig.prog 6 #[.slice a N ca, .slice b m cb, .slice c n cc, .slice d P cd] w fun e w' => e = .returned (.bool true) ∧ Below w.heap.size w w' := by
  have HC := hideIt (bytes18 a b c d N m n P ca cb cc cd z w h1 h2 h3 h4 hr)
  clear hr
  unfold maxLen at h1 h2 h3 h4
  go_enter Edig.func6, Edig.ntmps6
  go_wp2_with fail
  refine HC.out.mono ?_
  rintro e w' ⟨⟨r, rfl⟩, rfl⟩
  clear HC
  cases r
  · go_wp2
    go_ret
    exact ⟨rfl, Below.refl _ _⟩
  · by_cases g1 : 65536 < N
    · clear h
      go_wp2
      go_ret
      exact ⟨rfl, Below.refl _ _⟩
    · by_cases g2 : 131072 < m
      · clear h
        go_wp2
        go_ret
        exact ⟨rfl, Below.refl _ _⟩
      · by_cases g3 : 4096 < n
        · clear h
          go_wp2
          go_ret
          exact ⟨rfl, Below.refl _ _⟩
        · have g4 : 4096 < P := by omega
          clear h
          go_wp2
          go_ret
          exact ⟨rfl, Below.refl _ _⟩

theorem no_more {base sz : Nat → Int} {p : Int} {j : Nat} (h : ∀ i, i < j → ¬ In base sz p i) (hj : ¬ In base sz p j) : Hid (∀ i, i < j + 1 → ¬ In base sz p i) := by
  intro i hi
  by_cases e : i = j
  · subst e; exact hj
  · exact h i (by omega)

set_option maxRecDepth 100000 in
set_option maxHeartbeats 4000000 in
theorem scan_core (a b c d : Option Addr) (N m n P ca cb cc cd : Nat) (z : Nat → ByteArray) (bz sz pz : Nat → Int) (w : World) (hN : N ≤ 65536) (hm : m ≤ 131072) (hn : n ≤ 4096) (hP : P ≤ 4096)
    (ha : StrArg w a N ca z) (hb : IntArg w b m cb bz) (hc : IntArg w c n cc sz) (hd : IntArg w d P cd pz) :
    Calls Edig.prog 6 #[.slice a N ca, .slice b m cb, .slice c n cc, .slice d P cd] w fun e w' => e = .returned (.bool true) ∧ Below w.heap.size w w' := by
  have HA := hideIt ha
  have HB := hideIt hb
  have HC := hideIt hc
  have HD := hideIt hd
  clear ha hb hc hd
  go_enter Edig.func6, Edig.ntmps6
  go_wp2_with fail
  refine (bytes18 a b c d N m n P ca cb cc cd z _ HA.out.max HB.out.max HC.out.max HD.out.max HA.out.row).mono ?_
  rintro e w' ⟨⟨r, rfl⟩, rfl⟩
  cases r
  · go_wp2
    go_ret
    exact ⟨rfl, Below.refl _ _⟩
  · go_wp2_with fail
    refine (script15 a b c N m n ca cb cc z _ (by omega) (by omega) (by omega) HA.out.row).mono ?_
    rintro e w' ⟨⟨t, rfl⟩, rfl⟩
    go_wp2_with fail
    · go_ret
      exact ⟨rfl, Below.refl _ _⟩
    · refine (model_any b m cb c n cc bz sz _ (by omega) (by omega) HB.out HC.out).mono ?_
      rintro e w1 (⟨rfl, hb1⟩ | ⟨rfl, hok, hfm, hb1, hz1⟩)
      · go_wp2
        go_ret
        exact ⟨rfl, hb1⟩
      · have B1 := hideIt hb1
        have HO := hideIt hok
        have HM := hideIt hfm
        have hMz : w'.heap.size < w1.heap.size := by omega
        clear hb1 hok hfm hz1
        go_wp2_with fail
        refine (cloneS_any a N ca z _ (by omega) HA.out.nil (by exact HA.out.row.below B1.out)).mono ?_
        rintro e w2 ⟨a', ca', rfl, ra, hb2⟩
        have B2 := hideIt (bel2 B1.out hb2)
        replace HM := hideIt (HM.out.keep (hb2.block _ hMz))
        have hMz2 : w'.heap.size < w2.heap.size := Nat.lt_of_lt_of_le hMz hb2.size
        have RA := hideIt ra
        clear hb2 ra B1 hMz
        go_wp2_with fail
        refine (clone_any b m cb bz _ (by omega) HB.out.nil (by exact HB.out.row.below B2.out)).mono ?_
        rintro e w3 ⟨b', cb', rfl, rb, hb3⟩
        have B3 := hideIt (bel2 B2.out hb3)
        replace HM := hideIt (HM.out.keep (hb3.block _ hMz2))
        have hMz3 : w'.heap.size < w3.heap.size := Nat.lt_of_lt_of_le hMz2 hb3.size
        replace RA := hideIt (RA.out.below hb3)
        have RB := hideIt rb
        clear hb3 rb B2 hMz2
        go_wp2_with fail
        refine (clone_any c n cc sz _ (by omega) HC.out.nil (by exact HC.out.row.below B3.out)).mono ?_
        rintro e w4 ⟨c', cc', rfl, rc, hb4⟩
        have B4 := hideIt (bel2 B3.out hb4)
        replace HM := hideIt (HM.out.keep (hb4.block _ hMz3))
        have hMz4 : w'.heap.size < w4.heap.size := Nat.lt_of_lt_of_le hMz3 hb4.size
        replace RA := hideIt (RA.out.below hb4)
        replace RB := hideIt (RB.out.below hb4)
        have RC := hideIt rc
        clear hb4 rc B3 hMz3
        go_wp2_with fail
        refine (clone_any d P cd pz _ (by omega) HD.out.nil (by exact HD.out.row.below B4.out)).mono ?_
        rintro e w5 ⟨d', cd', rfl, rd, hb5⟩
        have B5 := hideIt (bel2 B4.out hb5)
        replace HM := hideIt (HM.out.keep (hb5.block _ hMz4))
        have hMz5 : w'.heap.size < w5.heap.size := Nat.lt_of_lt_of_le hMz4 hb5.size
        replace RA := hideIt (RA.out.below hb5)
        replace RB := hideIt (RB.out.below hb5)
        replace RC := hideIt (RC.out.below hb5)
        have RD := hideIt rd
        clear hb5 rd B4 hMz4 HA HB HC HD
        go_wp2_with fail
        refine (run_any a' b' c' N m n ca' cb' cc' z bz sz _ (by omega) (by omega) (by omega) RA.out RB.out RC.out HO.out).mono ?_
        rintro e w6 ⟨q, rfl, hrs⟩
        have HR := hideIt hrs
        clear hrs
        obtain ⟨v, l, last, hh⟩ := HR.out.hs
        obtain ⟨fa, fcap, e5, hfs⟩ := hh.fs
        subst e5
        have HL0 := hideIt (show Looked w6 w6 w5.heap.size fa fcap n q (mb m bz sz) sz (nxt m bz sz n) from ⟨Kp.refl _ _, _, hfs⟩)
        have hR6 : w5.heap.size + 2 ≤ w6.heap.size := hh.rW
        clear hh hfs
        have hsw : w'.heap.size ≤ w5.heap.size := B5.out.size
        have RC6 := hideIt (RC.out.bound HR.out.bel)
        have RD6 := hideIt (RD.out.bound HR.out.bel)
        have FI := hideIt HR.out.fill
        have BW := hideIt (B5.out.trans (HR.out.bel.mono hsw))
        have GD := hideIt (HO.out.good (by omega))
        replace HM := hideIt (HM.out.keep (HR.out.bel.block _ hMz5))
        clear RA RB RC RD B5 HR HO
        generalize w5.heap.size = s at *
        generalize nxt m bz sz n = B at *
        generalize mb m bz sz = base at *
        have hns := neq_self
        go_wp2
        go_loopw [14] (fun i wr => ∃ k : Nat, k ≤ P ∧ i = .int .i64 (k : Int) ∧ Looked w6 wr s fa fcap n q base sz B) (fun i _ => P - (intOf i).toNat)
        case atStart => exact ⟨0, Nat.zero_le _, rfl, HL0.out⟩
        case round =>
          obtain ⟨k, hk, rfl, hl⟩ := hrel
          have HL := hideIt hl
          clear hl
          by_cases hlt : k < P
          · obtain ⟨b3, off3, e3, hb3, hc3⟩ := RD6.out k hlt
            subst e3
            have c3 : wr.cell? ⟨b3, off3 + k, none⟩ = some (.int .i64 (pz k)) := HL.out.kp.cell (by omega) hc3
            clear hc3
            by_cases hp0 : pz k = 0
            · have z0 : (pz k == 0) = true := by simpa using hp0
              have ea : ans q base sz n (pz k) = none := by rw [hp0]; exact ans_zero GD.out
              clear hp0
              go_wp2_with fail
              refine (File_look HL.out GD.out (pz k)).mono ?_
              rintro e w7 ⟨rfl, hl7⟩
              have HL7 := hideIt hl7
              clear hl7 HL
              go_wp2
              go_roundw
              case rel => exact ⟨k + 1, by omega, by go_num, HL7.out⟩
              case measure => simp [intOf] <;> omega
            · have z0 : (pz k == 0) = false := by simpa using hp0
              clear hp0
              go_wp2_with fail
              obtain ⟨wo, ewo⟩ : ∃ wo : World, wo = wr := ⟨_, rfl⟩
              subst ewo
              have zb : (pz k != 0) = true := by unfold bne; rw [z0]; rfl
              rw [zb]
              clear z0 zb
              go_loopw [16, 17] (fun t i w'' => ∃ j dd : Nat, j ≤ n ∧ t = .int .i64 (-1) ∧ i = .int .i64 (j : Int) ∧ w'' = wo.drewN dd ∧ Hid (∀ i, i < j → ¬ In base sz (pz k) i)) (fun _ i _ => n - (intOf i).toNat)
              case atStart => exact ⟨0, 0, Nat.zero_le _, rfl, rfl, rfl, hideIt (fun i hi => absurd hi (Nat.not_lt_zero i))⟩
              case round =>
                obtain ⟨j, dd, hj, rfl, rfl, rfl, hno⟩ := hrel
                by_cases hjn : j < n
                · have x1 : wo.cell? ⟨w'.heap.size, j, none⟩ = some (.int .i64 (base j)) := HL.out.kp.cell (by omega) (HM.out.done j hjn)
                  obtain ⟨b2, off2, e2, hb2, hc2⟩ := RC6.out j hjn
                  subst e2
                  have x2 : wo.cell? ⟨b2, off2 + j, none⟩ = some (.int .i64 (sz j)) := HL.out.kp.cell (by omega) hc2
                  have g1 := GD.out.fit j hjn
                  have g2 := GD.out.ord.1 j hjn
                  clear hc2
                  by_cases hin1 : base j ≤ pz k
                  · have d1 : decide (base j ≤ pz k) = true := by simpa using hin1
                    by_cases hin2 : pz k ≤ base j + sz j
                    · have d2 : decide (pz k ≤ base j + sz j) = true := by simpa using hin2
                      have ea := ans_in (q := q) GD.out hjn ⟨hin1, hin2⟩
                      go_wp2
                      go_quiet (fail)
                      go_wp2_with fail
                      refine (File_look (HL.out.draws _) GD.out (pz k)).mono ?_
                      rintro e w7 ⟨rfl, hl7⟩
                      have HL7 := hideIt hl7
                      have x3 : w7.cell? ⟨s + 1, j, none⟩ = some (.pointer (some ⟨q j, 0, none⟩)) := hl7.kp.cell (by omega) (FI.out.done j hjn)
                      clear hl7 HL x1 x2
                      rw [ea]
                      clear ea
                      go_wp2
                      go_roundw
                      case rel => first | exact ⟨k + 1, by omega, by go_num, HL7.out⟩ | ((repeat apply Exists.intro); exact ⟨⟨k + 1, by omega, by go_num, HL7.out⟩, rfl⟩)
                      case measure => simp [intOf] <;> omega
                    · have d2 : decide (pz k ≤ base j + sz j) = false := by simpa using hin2
                      go_wp2
                      go_quiet (fail)
                      go_wp2
                      go_roundw
                      case rel => first | exact ⟨j + 1, _, by omega, rfl, by go_num, rfl, no_more hno.out (fun h => by have := h.2; omega)⟩ | ((repeat apply Exists.intro); exact ⟨⟨j + 1, _, by omega, rfl, by go_num, rfl, no_more hno.out (fun h => by have := h.2; omega)⟩, rfl⟩)
                      case measure => simp [intOf] <;> omega
                  · have d1 : decide (base j ≤ pz k) = false := by simpa using hin1
                    go_wp2
                    go_quiet (fail)
                    go_wp2
                    go_roundw
                    case rel => first | exact ⟨j + 1, _, by omega, rfl, by go_num, rfl, no_more hno.out (fun h => by have := h.1; omega)⟩ | ((repeat apply Exists.intro); exact ⟨⟨j + 1, _, by omega, rfl, by go_num, rfl, no_more hno.out (fun h => by have := h.1; omega)⟩, rfl⟩)
                    case measure => simp [intOf] <;> omega
                · have ea : ans q base sz n (pz k) = none := ans_no (fun i hi => hno.out i (by omega))
                  go_wp2_with fail
                  refine (File_look (HL.out.draws dd) GD.out (pz k)).mono ?_
                  rintro e w7 ⟨rfl, hl7⟩
                  have HL7 := hideIt hl7
                  clear hl7 HL
                  go_wp2
                  go_roundw
                  case rel => first | exact ⟨k + 1, by omega, by go_num, HL7.out⟩ | ((repeat apply Exists.intro); exact ⟨⟨k + 1, by omega, by go_num, HL7.out⟩, rfl⟩)
                  case measure => simp [intOf] <;> omega
          · go_wp2
            obtain ⟨wo, ewo⟩ : ∃ wo : World, wo = wr := ⟨_, rfl⟩
            subst ewo
            go_loopw [19] (fun i w'' => ∃ j : Nat, j ≤ n ∧ i = .int .i64 (j : Int) ∧ Looked w6 w'' s fa fcap n q base sz B) (fun i _ => n - (intOf i).toNat)
            case atStart => exact ⟨0, Nat.zero_le _, rfl, HL.out⟩
            case round =>
              obtain ⟨i, hi, rfl, hl2⟩ := hrel
              have HL2 := hideIt hl2
              clear hl2 HL
              by_cases hin : i < n
              · have x1 : wr.cell? ⟨w'.heap.size, i, none⟩ = some (.int .i64 (base i)) := HL2.out.kp.cell (by omega) (HM.out.done i hin)
                obtain ⟨b2, off2, e2, hb2, hc2⟩ := RC6.out i hin
                subst e2
                have x2 : wr.cell? ⟨b2, off2 + i, none⟩ = some (.int .i64 (sz i)) := HL2.out.kp.cell (by omega) hc2
                have x3 : wr.cell? ⟨s + 1, i, none⟩ = some (.pointer (some ⟨q i, 0, none⟩)) := HL2.out.kp.cell (by omega) (FI.out.done i hin)
                have g1 := GD.out.fit i hin
                have g2 := GD.out.ord.1 i hin
                have ea1 : ans q base sz n (base i) = some ⟨q i, 0, none⟩ := ans_in GD.out hin ⟨Int.le_refl _, by omega⟩
                have ea2 : ans q base sz n (base i + sz i) = some ⟨q i, 0, none⟩ := ans_in GD.out hin ⟨by omega, Int.le_refl _⟩
                have hwr : IntKind.i64.wrap (base i + sz i) = base i + sz i := by rw [IntKind.wrap_i64]; omega
                have n1 : w'.heap.size ≠ s := by omega
                have n2 : b2 ≠ s := by omega
                have n3 : s + 1 ≠ s := by omega
                have HST := hideIt (held3_start HL2.out x1 x2 x3)
                clear hc2
                go_wp2
                go_region_held3 (fun w'' => w''.cell? ⟨w'.heap.size, i, none⟩ = some (.int .i64 (base i)) ∧ w''.cell? ⟨b2, off2 + i, none⟩ = some (.int .i64 (sz i)) ∧ w''.cell? ⟨s + 1, i, none⟩ = some (.pointer (some ⟨q i, 0, none⟩)) ∧ Looked w6 w'' s fa fcap n q base sz B)
                  (first | exact HST.out | exact held3_next (by assumption) (by assumption) (by assumption) n1 n2 n3)
                  (first | (go_at_call 11; refine (File_look' (And.right (And.right (And.right (by assumption)))) GD.out _).mono ?_; rintro e w7 ⟨rfl, hl7, hk7⟩))
                have HL7 := hideIt hl7
                clear hl7 hk7 HST HL2 x1 x2 x3
                go_wp2
                go_roundw
                case rel => first | exact ⟨i + 1, by omega, by go_num, HL7.out⟩ | ((repeat apply Exists.intro); exact ⟨⟨i + 1, by omega, by go_num, HL7.out⟩, rfl⟩)
                case measure => simp [intOf] <;> omega
              · have ez : ans q base sz n 0 = none := ans_zero GD.out
                go_wp2_with fail
                refine (File_look HL2.out GD.out 0).mono ?_
                rintro e w7 ⟨rfl, hl7⟩
                have BWW := hideIt (BW.out.trans (hl7.kp.below (B := w'.heap.size) hsw (by omega)))
                clear hl7 HL2
                rw [ez]
                clear ez
                go_wp2
                go_ret
                exact ⟨rfl, BWW.out⟩

theorem scan_any (a b c d : Option Addr) (N m n P ca cb cc cd : Nat) (z : Nat → ByteArray) (bz sz pz : Nat → Int) (w : World) (ha : StrArg w a N ca z) (hb : IntArg w b m cb bz) (hc : IntArg w c n cc sz) (hd : IntArg w d P cd pz) :
    Calls Edig.prog 6 #[.slice a N ca, .slice b m cb, .slice c n cc, .slice d P cd] w fun e w' => e = .returned (.bool true) ∧ Below w.heap.size w w' := by
  by_cases h : N ≤ 65536 ∧ m ≤ 131072 ∧ n ≤ 4096 ∧ P ≤ 4096
  · exact scan_core a b c d N m n P ca cb cc cd z bz sz pz w h.1 h.2.1 h.2.2.1 h.2.2.2 ha hb hc hd
  · exact scan_long a b c d N m n P ca cb cc cd z w ha.max hb.max hc.max hd.max ha.row h

end Go.Proofs.Yoediw
