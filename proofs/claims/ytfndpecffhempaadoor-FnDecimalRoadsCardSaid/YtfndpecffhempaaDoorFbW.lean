/- floatBits of the package's decimals at double, by a contract. Written by gen_fbw.py. -/
import Derived.Test.YtfndpecffhempaaDoorFbD
namespace Go.Proofs.YtfndpecffhempaaDoor
open Go.RowKit

set_option maxHeartbeats 4000000 in
set_option maxRecDepth 100000 in
theorem fb_double (b fb B : Nat) (D l : List Nat) (dp : Int) (neg : Bool) (r : Nat) (w : World) (h : DecBox w b D (l.length : Nat) dp neg false) (ht : D.take l.length = l) (hl : l.length ≤ 800) (hf : FltBox w fb 52 11 (-1023)) (hC : Cheat w B) (hP : PowT w B) (hB : B ≤ b) (hr0 : l.length = 0 → r = 0) (hr1 : l.length ≠ 0 → 310 < dp → r = 2047 * 2 ^ 52) (hr2 : l.length ≠ 0 → dp < -330 → r = 0) (hr3 : ∀ M, M = 5000 → l.length ≠ 0 → r = rungQ 52 (-1074) 2047 (sv l dp) (10 ^ M)) (hL : l.length ≠ 0 → Lead l) :
    Calls Tryd.prog 49 #[.pointer (some ⟨b, 0, none⟩), .pointer (some ⟨fb, 0, none⟩)] w fun e w' => e = .returned (.tuple #[.int .u64 ((sgnB neg 9223372036854775808 r : Nat) : Int), .bool (decide (r = 2047 * 2 ^ 52))]) ∧ Only b w w' := by
  have hne := hf.ne h
  have HNe := Lib.hid hne
  have HF := Lib.hid hf
  have H := Lib.hid h
  have HT := Lib.hid ht
  have HC := Lib.hid hC
  have HP := Lib.hid hP
  clear h hf ht hC hP
  go_enter Tryd.func49, Tryd.ntmps49
  go_wp2_with fail
  refine wp_scope_many (fbJ b fb neg r 52 2047 (-1023) w) (fun l => l) ?_ ?_
  · have c0 := H.out.nd_
    have c1 := H.out.dp_
    by_cases h0 : l.length = 0
    · have t0 : ((l.length : Int) == 0) = true := by rw [h0]; rfl
      have hfw := HF.out
      have f2 : w.cell? ⟨fb, 2, none⟩ = some (.int .i64 (-1023)) := by rw [hfw.cell 2]; rfl
      clear hfw
      have HR0 := Lib.hid (hr0 h0)
      clear h0
      go_wp2_with fail
      go_step3
      exact ⟨_, _, 0, rfl, Only.refl _ _, H.out.neg_, .inl ⟨rfl, by decide, 0, by omega, by omega, by rw [HR0.out]; first | done | decide, by rw [HR0.out]; first | done | decide⟩⟩
    · have t0 : ((l.length : Int) == 0) = false := by simp; intro hh; exact h0 (by rw [hh]; rfl)
      by_cases hbig : 310 < dp
      · have HR0 := Lib.hid (hr1 h0 hbig)
        clear h0
        go_wp2_with fail
        go_step3
        exact ⟨_, _, _, rfl, Only.refl _ _, H.out.neg_, .inr ⟨rfl, HR0.out⟩⟩
      · by_cases hsm : dp < -330
        · have hfw := HF.out
          have f2 : w.cell? ⟨fb, 2, none⟩ = some (.int .i64 (-1023)) := by rw [hfw.cell 2]; rfl
          clear hfw
          have HR0 := Lib.hid (hr2 h0 hsm)
          clear h0
          go_wp2_with fail
          go_step3
          exact ⟨_, _, 0, rfl, Only.refl _ _, H.out.neg_, .inl ⟨rfl, by decide, 0, by omega, by omega, by rw [HR0.out]; first | done | decide, by rw [HR0.out]; first | done | decide⟩⟩
        · have HH0 := Lib.hid h0
          clear h0
          go_upto_block 0 with fail
          obtain ⟨M, hM⟩ : ∃ M, M = 5000 := ⟨_, rfl⟩
          obtain ⟨N, hN⟩ : ∃ N, N = 3000 := ⟨_, rfl⟩
          have hLd := hL HH0.out
          obtain ⟨G, Q, hR, hA⟩ := road_of (F := 52) (least := -1074) (dp := dp) hM hN hLd hl (by omega) (by omega) (by omega) (by omega) (by omega)
          have hS0 : sv l dp ≠ 0 := by
            have h1 := (sv_bounds hLd (show (l.length : Int) ≤ 5000 + dp by omega)).1
            have := Nat.pow_pos (n := (5000 + dp - 1).toNat) (show 0 < 10 by omega)
            omega
          have hrr := hr3 M hM HH0.out
          generalize hLg : lgQ (sv l dp) (10 ^ M) = L at *
          have hRE := rung_end (top := 2047) hS0 hLg (F := 52) (least := -1074) rfl
          rw [← hrr] at hRE
          obtain ⟨g, hg⟩ : ∃ g, g = gR M G Q := ⟨_, rfl⟩
          obtain ⟨V, hV⟩ : ∃ V, V = sv l dp * 2 ^ N := ⟨_, rfl⟩
          have R := Lib.hid hR
          have l0 := hR.l0
          have l1 := hR.l1
          have HRE := Lib.hid hRE
          have HG := Lib.hid hg
          have HV := Lib.hid hV
          have HM := Lib.hid hM
          have hS1 : Hid (ShSt b neg (FbQ g V 0 (-330) 310) w w) := ⟨D, l, dp, false, ⟨by rw [hg, hV]; exact hA, hLd, hl, by omega, by omega⟩, H.out, HT.out, Only.refl _ _⟩
          clear hM hN hR hA hLd hS0 hrr hLg hRE hg hV c0 c1 t0 hr3
          go_cut [6] (fun e wx => ∃ E : Int, e = .int .i64 E ∧ 0 ≤ E ∧ E ≤ 1200 ∧ (E ≤ 0 ∨ E ≤ L + 27) ∧ Hid (ShSt b neg (FbQ g V E (-330) 0) w wx))
          case first =>
            go_wp2_with fail
            go_loopw [6] (fun e wr => ∃ E : Int, e = .int .i64 E ∧ 0 ≤ E ∧ E ≤ 1200 ∧ (E ≤ 0 ∨ E ≤ L + 27) ∧ Hid (ShSt b neg (FbQ g V E (-330) 310) w wr)) (fun e _ => (L + 40 - intOf e).toNat)
            case atStart => exact ⟨0, rfl, by omega, by omega, by omega, hS1⟩
            case round =>
              obtain ⟨E, rfl, e0, e1, e2, hst⟩ := hrel
              obtain ⟨D2, l2, dp2, tr2, ⟨ha2, hL2, hl2, lo2, hi2⟩, hd2, ht2, ho2⟩ := hst.out
              have c1 := hd2.dp_
              have HA2 := Lib.hid ha2
              have HL2 := Lib.hid hL2
              have HD2 := Lib.hid hd2
              have HT2 := Lib.hid ht2
              have HO2 := Lib.hid ho2
              have HC2 := Lib.hid (HC.out.only ho2 hB)
              obtain ⟨_, _, pb, po, cap, _, pc, pt⟩ := HP.out.only ho2 hB
              clear ha2 hL2 hd2 ht2 ho2 hst
              by_cases hpos : 0 < dp2
              · obtain ⟨d, rfl⟩ := Int.eq_ofNat_of_zero_le (show 0 ≤ dp2 by omega)
                have he := R.out.e_le (by rw [← HG.out, ← HV.out]; exact HA2.out) HL2.out hl2 (by omega) (by omega)
                have hd1 : 0 < d := by omega
                rcases Nat.lt_or_ge d 9 with h9 | h9
                · have h9' : decide (9 ≤ d) = false := decide_eq_false (by omega)
                  have hp1 := pt d h9
                  clear pt
                  obtain ⟨n1, n2, _⟩ := ptN_bd d
                  generalize ptN d = n at *
                  go_wp2_with fail
                  go_quiet (fail)
                  go_wp2_with fail
                  go_quiet (fail)
                  go_wp2_with fail
                  refine (shift_any b B D2 l2 (d : Int) (-(n : Int)) neg tr2 _ (HD2.out.drewN _) HT2.out hl2 (fun _ => HL2.out) (HC2.out.drewN _) hB (by omega) (by omega) (by omega) (by omega)).mono ?_
                  rintro e w2 ⟨rfl, D3, l3, dp3, tr3, hq, hd3, ht3, ho3⟩
                  have s0 := R.out.shift (E := E) hq (by rw [← HG.out, ← HV.out]; exact HA2.out) HL2.out hl2 (by omega) (by omega) (by omega) (by omega) (by omega) (by omega) (by omega) (by omega)
                  rw [← HG.out, ← HV.out] at s0
                  obtain ⟨s1, s2, s3, s5, _⟩ := s0
                  have s4 := (shK_dp hq HL2.out hl2 (by omega) (by omega) (by omega)).2 (by omega)
                  have s6 : -330 ≤ dp3 := by omega
                  have HQ := Lib.hid (show ShSt b neg (FbQ g V (E + (n : Int)) (-330) 310) w w2 from ⟨D3, l3, dp3, tr3, ⟨by rw [show E + (n : Int) = E - -(n : Int) by omega]; exact s1, s2, s3, s6, by omega⟩, hd3, ht3, (HO2.out.drewN _).trans ho3⟩)
                  clear hq hd3 ht3 ho3 s1 s2 s3 s4 s5 s6
                  go_wp2_with fail
                  go_roundw
                  case rel => exact ⟨E + (n : Int), rfl, by omega, by omega, by omega, HQ.out⟩
                  case measure => simp [intOf]; omega
                · have hn : ptN d = 27 := if_pos h9
                  clear pt hn
                  go_wp2_with fail
                  go_quiet (fail)
                  go_wp2_with fail
                  refine (shift_any b B D2 l2 (d : Int) (-27) neg tr2 _ (HD2.out.drewN _) HT2.out hl2 (fun _ => HL2.out) (HC2.out.drewN _) hB (by omega) (by omega) (by omega) (by omega)).mono ?_
                  rintro e w2 ⟨rfl, D3, l3, dp3, tr3, hq, hd3, ht3, ho3⟩
                  have s0 := R.out.shift (E := E) hq (by rw [← HG.out, ← HV.out]; exact HA2.out) HL2.out hl2 (by omega) (by omega) (by omega) (by omega) (by omega) (by omega) (by omega) (by omega)
                  rw [← HG.out, ← HV.out] at s0
                  obtain ⟨s1, s2, s3, s5, _⟩ := s0
                  have s4 := (shK_dp hq HL2.out hl2 (by omega) (by omega) (by omega)).2 (by omega)
                  have s6 : -330 ≤ dp3 := by omega
                  have HQ := Lib.hid (show ShSt b neg (FbQ g V (E + 27) (-330) 310) w w2 from ⟨D3, l3, dp3, tr3, ⟨by rw [show E + 27 = E - -27 by omega]; exact s1, s2, s3, s6, by omega⟩, hd3, ht3, (HO2.out.drewN _).trans ho3⟩)
                  clear hq hd3 ht3 ho3 s1 s2 s3 s4 s5 s6
                  go_wp2_with fail
                  go_roundw
                  case rel => exact ⟨E + 27, rfl, by omega, by omega, by omega, HQ.out⟩
                  case measure => simp [intOf]; omega
              · have hpos' : decide (0 < dp2) = false := decide_eq_false hpos
                have HQ := Lib.hid (show ShSt b neg (FbQ g V E (-330) 0) w wr from ⟨D2, l2, dp2, tr2, ⟨HA2.out, HL2.out, hl2, by omega, by omega⟩, HD2.out, HT2.out, HO2.out⟩)
                clear pt
                go_wp2_with fail
                go_meet
                exact ⟨E, rfl, e0, e1, e2, HQ.out⟩
          case rest =>
          obtain ⟨E0, rfl, e0, e1, e2, hst0⟩ := hcut
          obtain ⟨wA, rfl⟩ : ∃ w0 : World, w0 = wc := ⟨_, rfl⟩
          have hE0 : L < E0 := by
            obtain ⟨D2, l2, dp2, tr2, ⟨ha2, hL2, hl2, lo2, hi2⟩, _⟩ := hst0.out
            rw [HG.out, HV.out] at ha2
            exact R.out.e_gt ha2 hL2 hl2 (by omega) hi2
          clear hS1
          go_upto_block 2 with fail
          go_cut [6] (fun e wx => e = .int .i64 (L + 1) ∧ Hid (ShSt b neg (FbQ g V (L + 1) 0 0) w wx))
          case first =>
            go_wp2_with fail
            go_loopw [6] (fun e wr => ∃ E : Int, e = .int .i64 E ∧ L < E ∧ E ≤ 1200 ∧ (E ≤ 0 ∨ E ≤ L + 27) ∧ Hid (ShSt b neg (FbQ g V E (-330) 0) w wr)) (fun e _ => (intOf e - L).toNat)
            case atStart => exact ⟨E0, rfl, hE0, e1, e2, hst0⟩
            case round =>
              obtain ⟨E, rfl, e0, e1, e2, hst⟩ := hrel
              clear hst0 hE0
              obtain ⟨D2, l2, dp2, tr2, ⟨ha2, hL2, hl2, lo2, hi2⟩, hd2, ht2, ho2⟩ := hst.out
              have c1 := hd2.dp_
              have HA2 := Lib.hid ha2
              have HL2 := Lib.hid hL2
              have HD2 := Lib.hid hd2
              have HT2 := Lib.hid ht2
              have HO2 := Lib.hid ho2
              have HC2 := Lib.hid (HC.out.only ho2 hB)
              obtain ⟨_, _, pb, po, cap, _, pc, pt⟩ := HP.out.only ho2 hB
              clear ha2 hL2 hd2 ht2 ho2 hst
              have g0 := HD2.out.at_ (i := 0) (by omega)
              have hx0 : nth D2 0 = nth l2 0 := by
                have h1 := HL2.out.2.1
                rw [← nth_take (l := D2) (k := l2.length) h1, HT2.out]
              rw [hx0] at g0
              have hx9 := digs_nth HL2.out.1 (k := 0) HL2.out.2.1
              have hst1 := left_stay HM.out HL2.out hl2 (by omega) hi2
              clear hx0
              rcases (show dp2 < 0 ∨ dp2 = 0 by omega) with hneg | hzero
              · obtain ⟨a, ha⟩ : ∃ a : Nat, dp2 = -(a : Int) := ⟨dp2.natAbs, by omega⟩
                subst ha
                have ha1 : 1 ≤ a := by omega
                have hst2 := hst1 (fun h => by omega)
                rw [show (- -(a : Int)).toNat = a by omega] at hst2
                have t1 : decide (-(a : Int) < 0) = true := decide_eq_true (by omega)
                clear hst1 hneg g0
                rcases Nat.lt_or_ge a 9 with h9 | h9
                · have h9' : decide (9 ≤ a) = false := decide_eq_false (by omega)
                  have hp1 := pt a h9
                  obtain ⟨n1, n2, _⟩ := ptN_bd a
                  clear pt
                  generalize ptN a = n at *
                  have HST := Lib.hid hst2
                  clear hst2
                  go_wp2_with fail
                  go_quiet (fail)
                  go_wp2_with fail
                  go_quiet (fail)
                  go_wp2_with fail
                  refine (shift_any b B D2 l2 (-(a : Int)) (n : Int) neg tr2 _ (HD2.out.drewN _) HT2.out hl2 (fun _ => HL2.out) (HC2.out.drewN _) hB (by omega) (by omega) (by omega) (by omega)).mono ?_
                  rintro e w2 ⟨rfl, D3, l3, dp3, tr3, hq, hd3, ht3, ho3⟩
                  have s0 := R.out.shift (E := E) hq (by rw [← HG.out, ← HV.out]; exact HA2.out) HL2.out hl2 (by omega) (by omega) (by omega) (by omega) (by omega) (by omega) (by omega) (by omega)
                  have s7 : dp3 ≤ 0 := left_dp (n := n) (by exact hq) (by omega) (by omega) HL2.out hl2 (by omega) (by omega) HM.out HST.out
                  have s4 := (shK_dp hq HL2.out hl2 (by omega) (by omega) (by omega)).1 (by omega)
                  have s8 : L < E - (n : Int) := R.out.e_gt s0.1 s0.2.1 s0.2.2.1 (by omega) s7
                  rw [← HG.out, ← HV.out] at s0
                  obtain ⟨s1, s2, s3, _, _⟩ := s0
                  have HQ := Lib.hid (show ShSt b neg (FbQ g V (E - (n : Int)) (-330) 0) w w2 from ⟨D3, l3, dp3, tr3, ⟨s1, s2, s3, by omega, s7⟩, hd3, ht3, (HO2.out.drewN _).trans ho3⟩)
                  clear hq hd3 ht3 ho3 s1 s2 s3 s4 s7
                  go_wp2_with fail
                  go_roundw
                  case rel => exact ⟨E - (n : Int), rfl, s8, by omega, by omega, HQ.out⟩
                  case measure => simp [intOf]; omega
                · have hn : ptN a = 27 := if_pos h9
                  rw [hn] at hst2
                  have HST := Lib.hid hst2
                  clear pt hn hst2
                  go_wp2_with fail
                  go_quiet (fail)
                  go_wp2_with fail
                  refine (shift_any b B D2 l2 (-(a : Int)) 27 neg tr2 _ (HD2.out.drewN _) HT2.out hl2 (fun _ => HL2.out) (HC2.out.drewN _) hB (by omega) (by omega) (by omega) (by omega)).mono ?_
                  rintro e w2 ⟨rfl, D3, l3, dp3, tr3, hq, hd3, ht3, ho3⟩
                  have s0 := R.out.shift (E := E) hq (by rw [← HG.out, ← HV.out]; exact HA2.out) HL2.out hl2 (by omega) (by omega) (by omega) (by omega) (by omega) (by omega) (by omega) (by omega)
                  have s7 : dp3 ≤ 0 := left_dp (n := 27) (by exact hq) (by omega) (by omega) HL2.out hl2 (by omega) (by omega) HM.out HST.out
                  have s4 := (shK_dp hq HL2.out hl2 (by omega) (by omega) (by omega)).1 (by omega)
                  have s8 : L < E - 27 := R.out.e_gt s0.1 s0.2.1 s0.2.2.1 (by omega) s7
                  rw [← HG.out, ← HV.out] at s0
                  obtain ⟨s1, s2, s3, _, _⟩ := s0
                  have HQ := Lib.hid (show ShSt b neg (FbQ g V (E - 27) (-330) 0) w w2 from ⟨D3, l3, dp3, tr3, ⟨s1, s2, s3, by omega, s7⟩, hd3, ht3, (HO2.out.drewN _).trans ho3⟩)
                  clear hq hd3 ht3 ho3 s1 s2 s3 s4 s7
                  go_wp2_with fail
                  go_roundw
                  case rel => exact ⟨E - 27, rfl, s8, by omega, by omega, HQ.out⟩
                  case measure => simp [intOf]; omega
              · subst hzero
                by_cases h5 : nth l2 0 < 53
                · have HST := Lib.hid (show sv l2 0 * 2 ^ 1 < 10 ^ M from hst1 (fun _ => h5))
                  have t1 : decide ((nth l2 0 : Int) < 53) = true := decide_eq_true (by omega)
                  have hp0 : wr.cell? ⟨pb, po, none⟩ = some (.int .i64 1) := pt 0 (by omega)
                  clear pt hst1 h5
                  go_wp2_with fail
                  go_quiet (fail)
                  go_wp2_with fail
                  go_quiet (fail)
                  go_wp2_with fail
                  refine (shift_any b B D2 l2 (0) 1 neg tr2 _ (HD2.out.drewN _) HT2.out hl2 (fun _ => HL2.out) (HC2.out.drewN _) hB (by omega) (by omega) (by omega) (by omega)).mono ?_
                  rintro e w2 ⟨rfl, D3, l3, dp3, tr3, hq, hd3, ht3, ho3⟩
                  have s0 := R.out.shift (E := E) hq (by rw [← HG.out, ← HV.out]; exact HA2.out) HL2.out hl2 (by omega) (by omega) (by omega) (by omega) (by omega) (by omega) (by omega) (by omega)
                  have s7 : dp3 ≤ 0 := left_dp (n := 1) (by exact hq) (by omega) (by omega) HL2.out hl2 (by omega) (by omega) HM.out HST.out
                  have s4 := (shK_dp hq HL2.out hl2 (by omega) (by omega) (by omega)).1 (by omega)
                  have s8 : L < E - 1 := R.out.e_gt s0.1 s0.2.1 s0.2.2.1 (by omega) s7
                  rw [← HG.out, ← HV.out] at s0
                  obtain ⟨s1, s2, s3, _, _⟩ := s0
                  have HQ := Lib.hid (show ShSt b neg (FbQ g V (E - 1) (-330) 0) w w2 from ⟨D3, l3, dp3, tr3, ⟨s1, s2, s3, by omega, s7⟩, hd3, ht3, (HO2.out.drewN _).trans ho3⟩)
                  clear hq hd3 ht3 ho3 s1 s2 s3 s4 s7
                  go_wp2_with fail
                  go_roundw
                  case rel => exact ⟨E - 1, rfl, s8, by omega, by omega, HQ.out⟩
                  case measure => simp [intOf]; omega
                · have hEE := R.out.e_eq (by rw [← HG.out, ← HV.out]; exact HA2.out) HL2.out hl2 rfl (by omega) (by omega)
                  subst hEE
                  have t1 : decide ((nth l2 0 : Int) < 53) = false := decide_eq_false (by omega)
                  have HQ := Lib.hid (show ShSt b neg (FbQ g V (L + 1) 0 0) w wr from ⟨D2, l2, 0, tr2, ⟨HA2.out, HL2.out, hl2, by omega, by omega⟩, HD2.out, HT2.out, HO2.out⟩)
                  clear pt hst1 h5
                  go_wp2_with fail
                  go_meet
                  exact ⟨rfl, HQ.out⟩
          case rest =>
          obtain ⟨rfl, hst1⟩ := hcut
          obtain ⟨wB, rfl⟩ : ∃ w0 : World, w0 = wc := ⟨_, rfl⟩
          clear hst0 hE0 e0 e1 e2
          obtain ⟨q, hq⟩ : ∃ q, q = max (L - ((52 : Nat) : Int)) (-1074) := ⟨_, rfl⟩
          have hq1 : -1074 ≤ q := by rw [hq]; exact Int.le_max_right _ _
          have hq2 : L - 52 ≤ q := by rw [hq]; exact Int.le_max_left _ _
          have hq3 : q = L - 52 ∨ q = -1074 := by
            rw [hq, Int.max_def]
            split
            · exact .inr rfl
            · exact .inl rfl
          have hRE := HRE.out
          rw [← hq] at hRE
          have HRE2 := Lib.hid hRE
          have HQQ := Lib.hid hq
          obtain ⟨D2, l2, dp2, tr2, ⟨ha2, hL2, hl2, lo2, hi2⟩, hd2, ht2, ho2⟩ := hst1.out
          have HA2 := Lib.hid ha2
          have HL2 := Lib.hid hL2
          have HD2 := Lib.hid hd2
          have HT2 := Lib.hid ht2
          have HO2 := Lib.hid ho2
          have HC2 := Lib.hid (HC.out.only ho2 hB)
          have hfw := HF.out.only ho2 HNe.out
          have f2 : wB.cell? ⟨fb, 2, none⟩ = some (.int .i64 (-1023)) := by rw [hfw.cell 2]; rfl
          obtain ⟨ex, hex⟩ : ∃ ex, ex = q + 52 := ⟨_, rfl⟩
          have hx9 : -1100 ≤ ex ∧ ex ≤ 1200 := by omega
          have HEX := Lib.hid hex
          have HS1 := Lib.hid hst1.out
          clear ha2 hL2 hd2 ht2 ho2 hfw HRE hRE hst1
          go_upto_if 111 with fail
          go_cut [6, 10] (fun e _ wx => e = .int .i64 ex ∧ Hid (ShSt b neg (FbQ g V (ex + 1) (-400) 0) w wx))
          case first =>
            by_cases hsub : L < -1022
            · obtain ⟨m, hm⟩ : ∃ m : Nat, -1022 - L = (m : Int) := ⟨(-1022 - L).toNat, by omega⟩
              have hm2 : L + (m : Int) = -1022 := by omega
              have hex2 : ex = -1022 := by omega
              have t0 : decide (L < -1022) = true := decide_eq_true hsub
              have HEX2 := Lib.hid hex2
              clear hex hex2 hq
              go_wp2_with fail
              refine (shift_any b B D2 l2 dp2 (-(m : Int)) neg tr2 _ HD2.out HT2.out hl2 (fun _ => HL2.out) HC2.out hB (by omega) (by omega) (by omega) (by omega)).mono ?_
              rintro e w2 ⟨rfl, D3, l3, dp3, tr3, hq9, hd3, ht3, ho3⟩
              have s0 := R.out.shift (E := L + 1) hq9 (by rw [← HG.out, ← HV.out]; exact HA2.out) HL2.out hl2 (by omega) (by omega) (by omega) (by omega) (by omega) (by omega) (by omega) (by omega)
              rw [← HG.out, ← HV.out] at s0
              obtain ⟨s1, s2, s3, s5, _⟩ := s0
              have s4 := (shK_dp hq9 HL2.out hl2 (by omega) (by omega) (by omega)).2 (by omega)
              have s6 : -400 ≤ dp3 := by omega
              have HQ := Lib.hid (show ShSt b neg (FbQ g V (ex + 1) (-400) 0) w w2 from ⟨D3, l3, dp3, tr3, ⟨by rw [HEX2.out, show (-1022 : Int) + 1 = L + 1 - -(m : Int) by omega]; exact s1, s2, s3, s6, by omega⟩, hd3, ht3, HO2.out.trans ho3⟩)
              clear hq9 hd3 ht3 ho3 s1 s2 s3 s4 s5 s6
              go_wp2_with fail
              go_meet
              exact ⟨by rw [HEX2.out], HQ.out⟩
            · have t0 : decide (L < -1022) = false := decide_eq_false hsub
              have hsub2 : -1022 ≤ L := by omega
              have hex2 : ex = L := by omega
              have HEX2 := Lib.hid hex2
              have HQ := Lib.hid (show ShSt b neg (FbQ g V (ex + 1) (-400) 0) w wB from ⟨D2, l2, dp2, tr2, ⟨by rw [hex2]; exact HA2.out, HL2.out, hl2, by omega, hi2⟩, HD2.out, HT2.out, HO2.out⟩)
              clear hex hex2 hq hsub
              go_wp2_with fail
              go_meet
              exact ⟨by rw [HEX2.out], HQ.out⟩
          case rest =>
          obtain ⟨rfl, hst2⟩ := hcut
          obtain ⟨wC, rfl⟩ : ∃ w0 : World, w0 = wc := ⟨_, rfl⟩
          clear HS1 HA2 HL2 HD2 HT2 HO2 HC2 lo2 hi2 hl2 f2
          obtain ⟨D3, l3, dp3, tr3, ⟨ha3, hL3, hl3, lo3, hi3⟩, hd3, ht3, ho3⟩ := hst2.out
          have HA3 := Lib.hid ha3
          have HL3 := Lib.hid hL3
          have HD3 := Lib.hid hd3
          have HT3 := Lib.hid ht3
          have HO3 := Lib.hid ho3
          have HC3 := Lib.hid (HC.out.only ho3 hB)
          have hfw := HF.out.only ho3 HNe.out
          have f0 : wC.cell? ⟨fb, 0, none⟩ = some (.int .u64 52) := by rw [hfw.cell 0]; rfl
          have f1 : wC.cell? ⟨fb, 1, none⟩ = some (.int .u64 11) := by rw [hfw.cell 1]; rfl
          have f2 : wC.cell? ⟨fb, 2, none⟩ = some (.int .i64 (-1023)) := by rw [hfw.cell 2]; rfl
          obtain ⟨x, hx⟩ : ∃ x : Nat, ex - (-1023) = (x : Int) := ⟨(ex - (-1023)).toNat, by omega⟩
          have hxq : (q - (-1074)).toNat + 1 = x := by omega
          have x1 : IntKind.i64.wrap (ex - (-1023)) = (x : Int) := by rw [hx]; exact IntWalk.i64_in _ (by omega)
          have x2 : IntKind.i64.wrap (ex + 1023) = (x : Int) := by rw [show ex + 1023 = ex - (-1023) by omega]; exact x1
          have y1 : IntKind.i64.wrap (ex + 1 - (-1023)) = ((x + 1 : Nat) : Int) := by rw [show ex + 1 - (-1023) = ((x + 1 : Nat) : Int) by omega]; exact IntWalk.i64_in _ (by omega)
          have y2 : IntKind.i64.wrap (ex + 1 + 1023) = ((x + 1 : Nat) : Int) := by rw [show ex + 1 + 1023 = ((x + 1 : Nat) : Int) by omega]; exact IntWalk.i64_in _ (by omega)
          have y3 : IntKind.i64.wrap (ex + 1024) = ((x + 1 : Nat) : Int) := by rw [show ex + 1024 = ((x + 1 : Nat) : Int) by omega]; exact IntWalk.i64_in _ (by omega)
          have HX := Lib.hid hx
          have HXQ := Lib.hid hxq
          have HNG := Lib.hid hd3.neg_
          clear ha3 hL3 hd3 ht3 ho3 hfw hst2 hex hx hxq hq
          by_cases hov : 2047 ≤ x
          · have t0 : decide ((2047 : Int) ≤ (x : Int)) = true := decide_eq_true (by omega)
            have t1 : decide (2047 ≤ x) = true := decide_eq_true hov
            have hrv : Hid (r = 2047 * 2 ^ 52) := by
              obtain ⟨z1, z2, z3, z4⟩ := HRE2.out
              have z5 := HXQ.out
              show _ = _
              rw [z1]
              have z6 : 2046 * 2 ^ 52 ≤ (q - (-1074)).toNat * 2 ^ 52 := Nat.mul_le_mul_right _ (by omega)
              have z7 : 2 ^ 52 ≤ rnQ (sv l dp) (10 ^ M) q := by
                rcases z3 with z3 | z3
                · omega
                · exact z3
              have z8 : 2047 * 2 ^ 52 = 2046 * 2 ^ 52 + 2 ^ 52 := by decide
              rw [z8]
              exact Nat.min_eq_right (Nat.add_le_add z6 z7)
            clear hov y1 y2 y3 f0
            go_wp2_with fail
            go_quiet (fail)
            go_wp2_with fail
            go_step3
            exact ⟨_, _, _, rfl, HO3.out.drewN _, HNG.out, .inr ⟨rfl, hrv.out⟩⟩
          · have t0 : decide ((2047 : Int) ≤ (x : Int)) = false := decide_eq_false (by omega)
            have t1 : decide (2047 ≤ x) = false := decide_eq_false hov
            have hov9 : x < 2047 := by omega
            clear hov y1 y2 y3
            go_wp2_with fail
            go_quiet (fail)
            go_wp2_with fail
            refine (shift_any b B D3 l3 dp3 53 neg tr3 _ (HD3.out.drewN _) HT3.out hl3 (fun _ => HL3.out) (HC3.out.drewN _) hB (by omega) (by omega) (by omega) (by omega)).mono ?_
            rintro e w4 ⟨rfl, D4, l4, dp4, tr4, hq4, hd4, ht4, ho4'⟩
            have ho4 := (HO3.out.drewN _).trans ho4'
            have hex := HEX.out
            have s0 := R.out.shift (E := ex + 1) hq4 (by rw [← HG.out, ← HV.out]; exact HA3.out) HL3.out hl3 (by omega) (by omega) (by omega) (by omega) (by omega) (by omega) (by omega) (by omega)
            obtain ⟨s1, s2, s3, s5, _⟩ := s0
            have s6 : dp4 ≤ 16 := left_dp16 (n := 53) (by exact hq4) (by omega) (by omega) HL3.out hl3 (by omega) hi3
            have s7 := shK_last hq4 (by have := HL3.out.2.1; omega) (by omega)
            rw [show ex + 1 - 53 = q by omega] at s1
            have me := mant_eq R.out HQQ.out s1 s2 s3 s7 (by omega)
            have hRE := HRE2.out
            rw [← me] at hRE
            have hfw := HF.out.only ho4 HNe.out
            have f0' : w4.cell? ⟨fb, 0, none⟩ = some (.int .u64 52) := by rw [hfw.cell 0]; rfl
            have f1' : w4.cell? ⟨fb, 1, none⟩ = some (.int .u64 11) := by rw [hfw.cell 1]; rfl
            have f2' : w4.cell? ⟨fb, 2, none⟩ = some (.int .i64 (-1023)) := by rw [hfw.cell 2]; rfl
            have HL4 := Lib.hid s2
            have HD4 := Lib.hid hd4
            have HT4 := Lib.hid ht4
            have HO4 := Lib.hid ho4
            have HNG4 := Lib.hid hd4.neg_
            have HRE4 := Lib.hid hRE
            clear f0 f1 f2 x1 x2 hq4 hd4 ht4 ho4' ho4 hex s1 s2 s5 s7 me hRE hfw HRE2
            go_wp2_with fail
            refine (rint_all b D4 l4 dp4 neg tr4 _ HD4.out HT4.out s3 HL4.out.1 (by omega)).mono ?_
            rintro e w5 ⟨rfl, rfl⟩
            generalize mantV l4 dp4 tr4 = m at *
            obtain ⟨z1, z2, z3, _⟩ := HRE4.out
            have hex := HEX.out
            have hx := HX.out
            have hxq := HXQ.out
            have p0 : (2 : Nat) ^ 52 = 4503599627370496 := by decide
            have p1 : (2 : Nat) ^ (52 + 1) = 9007199254740992 := by decide
            obtain ⟨y, hy⟩ : ∃ y, y = (q - (-1074)).toNat := ⟨_, rfl⟩
            rw [← hy] at z1 hxq
            have Z1 := Lib.hid z1
            clear HRE4 z1
            rcases three_way z2 with hm | hm | hm
            · have hA := Lib.hid (endA hm Z1.out)
              clear Z1 z3
              have hml : m = 9007199254740992 := hm.trans p1
              subst hml
              obtain ⟨x', hx'⟩ : ∃ x' : Nat, x' = x + 1 := ⟨_, rfl⟩
              have y4 : ex + 1 - (-1023) = (x' : Int) := by omega
              have y1 : IntKind.i64.wrap (ex + 1 - (-1023)) = (x' : Int) := by rw [y4]; exact IntWalk.i64_in _ (by omega)
              have y2 : IntKind.i64.wrap (ex + 1 + 1023) = (x' : Int) := by rw [show ex + 1 + 1023 = (x' : Int) by omega]; exact IntWalk.i64_in _ (by omega)
              have y3 : IntKind.i64.wrap (ex + 1024) = (x' : Int) := by rw [show ex + 1024 = (x' : Int) by omega]; exact IntWalk.i64_in _ (by omega)
              have Y4 := Lib.hid y4
              have hxx : y + 2 = x' := by omega
              have hA2 := hA.out
              rw [hxx] at hA2
              have HA9 := Lib.hid hA2
              clear hA hA2
              by_cases hov2 : 2047 ≤ x'
              · have t0 : decide ((2047 : Int) ≤ (x' : Int)) = true := decide_eq_true (by omega)
                have t1 : decide (2047 ≤ x') = true := decide_eq_true hov2
                have hrv := Lib.hid (HA9.out.1 hov2)
                clear hov2 z2 HA9 hm hy hxx hex hx hxq hx' p0 p1 y4
                go_wp2_with fail
                go_quiet (fail)
                go_wp2_with fail
                go_step3
                exact ⟨_, _, _, rfl, HO4.out.drewN _, HNG4.out, .inr ⟨rfl, hrv.out⟩⟩
              · have t0 : decide ((2047 : Int) ≤ (x' : Int)) = false := decide_eq_false (by omega)
                have t1 : decide (2047 ≤ x') = false := decide_eq_false hov2
                have hrv := Lib.hid (HA9.out.2 (Nat.lt_of_not_le hov2))
                have hrl : Hid (x' ≤ 2047) := by show _ ≤ _; omega
                have e5 : bits BinOp.and IntKind.u64 4503599627370496 4503599627370496 = 4503599627370496 := by
                  have := and_bit (m := 4503599627370496) (k := 52) (by decide) (by omega)
                  rw [p0, if_pos (Nat.le_refl _)] at this
                  exact this
                have HR9 := Lib.hid (show r = x' * 2 ^ 52 + 4503599627370496 % 2 ^ 52 from (show x' * 2 ^ 52 + 2 ^ 52 % 2 ^ 52 = x' * 2 ^ 52 + 4503599627370496 % 2 ^ 52 from congrArg (x' * 2 ^ 52 + ·) (by decide)) ▸ hrv.out.1)
                clear hov2 z2 HA9 hm hy hxx hex hx hxq hx' p0 p1 y4
                go_wp2_with fail
                go_quiet (fail)
                go_wp2_with fail
                go_step3
                exact ⟨_, _, 4503599627370496, rfl, HO4.out.drewN _, HNG4.out, .inl ⟨rfl, by decide, x', Y4.out, hrl.out, HR9.out, by rw [decide_eq_false (Nat.ne_of_lt hrv.out.2)]⟩⟩
            · have hyx : y + 1 = x := hxq
              have hb2 := endB hm (hyx ▸ hov9) Z1.out
              rw [hyx] at hb2
              have HB2 := Lib.hid hb2
              clear hb2
              have hmb := hm.2
              rw [p1] at hmb
              have t0 : ((m : Int) == 9007199254740992) = false := by simp; omega
              have e5 : bits BinOp.and IntKind.u64 (m : Int) 4503599627370496 = 4503599627370496 := by
                have := and_bit (m := m) (k := 52) hm.2 (by omega)
                rw [if_pos hm.1, p0] at this
                exact this
              have hmm : Hid (m < 2 ^ 60) := Nat.lt_of_lt_of_le hm.2 (Nat.pow_le_pow_right (by omega) (by omega))
              have hxl : Hid (x ≤ 2047) := Nat.le_of_lt hov9
              clear Z1 z2 z3 hex hx hxq p0 p1 hm hmb hy hyx
              go_wp2_with fail
              go_step3
              exact ⟨_, _, m, rfl, HO4.out, HNG4.out, .inl ⟨rfl, hmm.out, x, HX.out, hxl.out, HB2.out.1, by rw [decide_eq_false (Nat.ne_of_lt HB2.out.2)]⟩⟩
            · have hy0 : y = 0 := by
                rcases z3 with z3 | z3
                · omega
                · exact absurd hm (Nat.not_lt.2 z3)
              have hb2 := endC hm hy0 (show 1 ≤ 2047 by decide) Z1.out
              have HB2 := Lib.hid hb2
              clear hb2
              have hmb := hm
              rw [p0] at hmb
              have t0 : ((m : Int) == 9007199254740992) = false := by simp; omega
              have e5 : bits BinOp.and IntKind.u64 (m : Int) 4503599627370496 = 0 := by
                have := and_bit (m := m) (k := 52) (Nat.lt_trans hm (Nat.pow_lt_pow_right (by omega) (by omega))) (by omega)
                rw [if_neg (Nat.not_le.2 hm), p0] at this
                exact this
              have hmm : Hid (m < 2 ^ 60) := Nat.lt_of_lt_of_le hm (Nat.pow_le_pow_right (by omega) (by omega))
              clear Z1 z2 z3 hex hx hxq p0 p1 hm hmb hy hy0
              go_wp2_with fail
              go_step3
              exact ⟨_, _, m, rfl, HO4.out, HNG4.out, .inl ⟨rfl, hmm.out, 0, by rfl, Nat.zero_le _, HB2.out.1, by rw [decide_eq_false (Nat.ne_of_lt HB2.out.2)]⟩⟩
  · intro lb a w' hj
    obtain ⟨ov, ex, mt, ha, hend⟩ := hj
    generalize (fun i => a.tmps.getD i undef) = u at ha
    subst ha
    obtain ⟨ho, hng, hcase⟩ := hend.out
    have HO := Lib.hid ho
    have hfw := HF.out.only ho HNe.out
    have f0 : w'.cell? ⟨fb, 0, none⟩ = some (.int .u64 52) := by rw [hfw.cell 0]; rfl
    have f1 : w'.cell? ⟨fb, 1, none⟩ = some (.int .u64 11) := by rw [hfw.cell 1]; rfl
    have f2 : w'.cell? ⟨fb, 2, none⟩ = some (.int .i64 (-1023)) := by rw [hfw.cell 2]; rfl
    clear hfw ho hend
    rcases hcase with ⟨rfl, hmt, x, hx, hx2, hr, hov⟩ | ⟨rfl, hr⟩
    · refine ⟨_, rfl, ?_⟩
      unfold fbF
      obtain ⟨m0, hm0⟩ : ∃ m0, m0 = mt % 2 ^ 52 := ⟨_, rfl⟩
      have hm09 : m0 < 2 ^ 52 := by rw [hm0]; exact Nat.mod_lt _ (two_pos _)
      have e1 : bits BinOp.and IntKind.u64 (mt : Int) 4503599627370495 = (m0 : Int) := by
        have := and_mask (N := mt) (M := 4503599627370495) (k := 52) (by omega) (by omega) (by decide)
        rw [hm0]; exact this
      have x1 : IntKind.i64.wrap (ex - (-1023)) = (x : Int) := by rw [hx]; exact IntWalk.i64_in _ (by omega)
      have x2 : IntKind.i64.wrap (ex + 1023) = (x : Int) := by rw [show ex + 1023 = ex - (-1023) by omega]; exact x1
      have x3 : bits BinOp.and IntKind.i64 (x : Int) 2047 = (x : Int) := i64_low (M := 2047) (k := 11) hx2 (by omega) (by decide)
      have x4 : IntKind.u64.wrap (x : Int) = (x : Int) := IntWalk.u64_in _ (by omega)
      have hX9 : x * 2 ^ 52 ≤ 2047 * 2 ^ 52 := Nat.mul_le_mul_right _ hx2
      have hX8 : x * 2 ^ 52 < 9223372036854775808 := Nat.lt_of_le_of_lt hX9 (by decide)
      have x5 := shl_lit (x := x) (k := 52) (by omega)
      have x6 := join_low (m := m0) (x := x) (k := 52) hm09 (by omega) (by omega)
      have hr2 : r = x * 2 ^ 52 + m0 := by rw [hr, hm0]
      rw [← hr2] at x6
      obtain ⟨X, hX⟩ : ∃ X, X = x * 2 ^ 52 := ⟨_, rfl⟩
      rw [← hX] at x5 x6
      have x7 : bits BinOp.or IntKind.u64 (m0 : Int) ((x : Int) * 4503599627370496) = (r : Int) := by
        rw [← x6, hX]; congr 1
      have x8 : bits BinOp.or IntKind.u64 (r : Int) 9223372036854775808 = ((sgnB true 9223372036854775808 r : Nat) : Int) := by
        have h3 : (x + 1) * 2 ^ 52 ≤ (2047 + 1) * 2 ^ 52 := Nat.mul_le_mul_right _ (by omega)
        have h4 : (2047 + 1) * 2 ^ 52 = 9223372036854775808 := by decide
        rw [Nat.add_mul, Nat.one_mul] at h3
        have h9 : r < 9223372036854775808 := by omega
        have := u64_or_nat r 9223372036854775808 (by omega) (by decide)
        unfold sgnB
        rw [if_pos rfl, Nat.or_comm]; exact this
      have HOv := Lib.hid hov
      clear hr hov hm0 hm09 hX hX8 hX9 hr2 hx hmt
      obtain ⟨z, hz⟩ : ∃ z : Nat, z = sgnB true 9223372036854775808 r := ⟨_, rfl⟩
      rw [← hz] at x8
      have HZ := Lib.hid hz
      clear hz
      have hng2 := hng
      cases neg
      · go_wp2_with fail
        go_quiet (fail)
        go_wp2_with fail
        simp only [jumpsTo]
        go_ret2
        exact ⟨by rw [HOv.out]; rfl, HO.out.drewN _⟩
      · go_wp2_with fail
        go_quiet (fail)
        go_wp2_with fail
        go_quiet (fail)
        go_wp2_with fail
        simp only [jumpsTo]
        go_ret2
        exact ⟨by rw [HOv.out, HZ.out]; rfl, (HO.out.drewN _).drewN _⟩
    · refine ⟨_, rfl, ?_⟩
      unfold fbF
      have y1 : bits BinOp.and IntKind.u64 0 4503599627370495 = 0 := by
        have := u64_and_nat 0 4503599627370495 (by decide) (by decide)
        rw [Nat.zero_and] at this; exact this
      have y2 : bits BinOp.and IntKind.i64 2047 2047 = 2047 := i64_low (x := 2047) (M := 2047) (k := 11) (by omega) (by omega) (by decide)
      have hrv : r = 9218868437227405312 := by rw [hr]
      have y3 : bits BinOp.or IntKind.u64 0 9218868437227405312 = (r : Int) := by
        have := u64_or_nat 0 9218868437227405312 (by decide) (by decide)
        rw [Nat.zero_or] at this; rw [hrv]; exact this
      have x8 : bits BinOp.or IntKind.u64 (r : Int) 9223372036854775808 = ((sgnB true 9223372036854775808 r : Nat) : Int) := by
        have := u64_or_nat r 9223372036854775808 (by omega) (by decide)
        unfold sgnB
        rw [if_pos rfl, Nat.or_comm]; exact this
      have HR := Lib.hid hr
      obtain ⟨z, hz⟩ : ∃ z : Nat, z = sgnB true 9223372036854775808 r := ⟨_, rfl⟩
      rw [← hz] at x8
      have HZ := Lib.hid hz
      clear hz hr hrv
      have hng2 := hng
      cases neg
      · go_wp2_with fail
        go_quiet (fail)
        go_wp2_with fail
        go_step3
        go_wp2_with fail
        go_quiet (fail)
        go_wp2_with fail
        simp only [jumpsTo]
        go_ret2
        exact ⟨by rw [decide_eq_true HR.out]; rfl, HO.out.drewN _⟩
      · go_wp2_with fail
        go_quiet (fail)
        go_wp2_with fail
        go_step3
        go_wp2_with fail
        go_quiet (fail)
        go_wp2_with fail
        go_quiet (fail)
        go_wp2_with fail
        simp only [jumpsTo]
        go_ret2
        exact ⟨by rw [decide_eq_true HR.out, HZ.out]; rfl, (HO.out.drewN _).drewN _⟩
end Go.Proofs.YtfndpecffhempaaDoor
