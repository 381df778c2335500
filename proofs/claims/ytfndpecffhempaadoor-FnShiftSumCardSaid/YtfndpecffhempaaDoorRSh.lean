/- rightShift of the package's decimals, by a contract. -/
import Derived.Test.YtfndpecffhempaaDoorLSh
import Derived.Deep.CutBlock
import Derived.Deep.DeepCutAuto
namespace Go.Proofs.YtfndpecffhempaaDoor
open Go.RowKit

theorem pR_low {l : List Nat} (h : Lead l) : ∀ i, 10 ^ i ≤ pR l (i + 1) := by
  intro i
  induction i with
  | zero =>
    rw [pR_succ, pR_zero]
    have h1 := digs_nth h.1 (k := 0) h.2.1
    have h2 := h.2.2
    unfold dR
    rw [if_pos h.2.1]
    omega
  | succ i ih =>
    rw [pR_succ, Nat.pow_succ]
    omega
/-- the first place at which the digits reach 2^k -/
theorem exists_r0 {l : List Nat} (h : Lead l) {k : Nat} (k2 : k ≤ 60) : ∃ r0, 0 < r0 ∧ r0 ≤ 20 ∧ pR l (r0 - 1) < 2 ^ k ∧ 2 ^ k ≤ pR l r0 := by
  have hp2 := pow60 k2
  have hp : 0 < 2 ^ k := Nat.pow_pos (by omega)
  have h20 : 2 ^ k ≤ pR l 20 := Nat.le_trans hp2 (Nat.le_trans (by decide) (pR_low h 19))
  obtain ⟨r0, h1, h2⟩ := exists_least (p := fun r => 2 ^ k ≤ pR l r) ⟨20, h20⟩
  have h0 : 0 < r0 := by
    rcases Nat.eq_zero_or_pos r0 with e | e
    · rw [e, pR_zero] at h1; omega
    · exact e
  refine ⟨r0, h0, h2 20 h20, ?_, h1⟩
  rcases Nat.lt_or_ge (pR l (r0 - 1)) (2 ^ k) with h3 | h3
  · exact h3
  · have := h2 _ h3; omega

/-- rightShift's state: R digits are written -/
def RShI (w wr : World) (b : Nat) (l : List Nat) (k r0 R : Nat) (dp : Int) (neg tr : Bool) : Prop :=
  ∃ D, DecBox wr b D (l.length : Nat) dp neg (tr || trR l k r0 R) ∧ RSt l k r0 R D ∧ Only b w wr
theorem RShI.put {w wr : World} {b : Nat} {l : List Nat} {k r0 R : Nat} {c : Int} {dp : Int} {neg tr : Bool} {D : List Nat} (h : DecBox wr b D (l.length : Nat) dp neg (tr || trR l k r0 R)) (hs : RSt l k r0 R D) (ho : Only b w wr) (hd : Digs l) (h0 : 0 < r0) (hR : R < 800) (hc : c = ((48 + nR l k (r0 + R) / 2 ^ k : Nat) : Int)) :
    RShI w (wr.setCell ⟨b, R, none⟩ (.int .u8 c)) b l k r0 (R + 1) dp neg tr := by
  subst hc
  have h9 : nR l k (r0 + R) / 2 ^ k < 10 := by rw [Nat.div_lt_iff_lt_mul (Nat.pow_pos (by omega))]; exact nR_lt hd k _
  exact ⟨_, by rw [trR_small l k r0 (show R + 1 ≤ 800 by omega)]; rw [trR_small l k r0 (show R ≤ 800 by omega)] at h; exact h.set hR (by omega), hs.put hd h0 h.1 hR, ho.setCell _ _⟩
theorem RShI.skip0 {w wr : World} {b : Nat} {l : List Nat} {k r0 R : Nat} {dp : Int} {neg tr : Bool} {D : List Nat} (h : DecBox wr b D (l.length : Nat) dp neg (tr || trR l k r0 R)) (hs : RSt l k r0 R D) (ho : Only b w wr) (hd : Digs l) (h0 : 0 < r0) (hR : 800 ≤ R) (hz : nR l k (r0 + R) / 2 ^ k = 0) :
    RShI w wr b l k r0 (R + 1) dp neg tr :=
  ⟨D, by rw [trR_cut hd k h0 hR, hz]; simpa using h, hs.skip hR, ho⟩
theorem RShI.skip1 {w wr : World} {b : Nat} {l : List Nat} {k r0 R : Nat} {dp : Int} {neg tr : Bool} {D : List Nat} (h : DecBox wr b D (l.length : Nat) dp neg (tr || trR l k r0 R)) (hs : RSt l k r0 R D) (ho : Only b w wr) (hd : Digs l) (h0 : 0 < r0) (hR : 800 ≤ R) (hz : nR l k (r0 + R) / 2 ^ k ≠ 0) :
    RShI w (wr.setCell ⟨b, 803, none⟩ (.bool true)) b l k r0 (R + 1) dp neg tr :=
  ⟨D, by have := h.setTr true
         rw [trR_cut hd k h0 hR, decide_eq_true hz]; simpa using this, hs.skip hR, ho.setCell _ _⟩
theorem pow10_two {a k : Nat} (h : k ≤ a) (x : Nat) : x * 10 ^ a % 2 ^ k = 0 := by
  obtain ⟨c, rfl⟩ := Nat.exists_eq_add_of_le h
  rw [show (10 : Nat) = 2 * 5 by decide, Nat.mul_pow, Nat.pow_add, ← Nat.mul_assoc, ← Nat.mul_assoc, Nat.mul_right_comm _ (2 ^ c), Nat.mul_comm x (2 ^ k), Nat.mul_assoc, Nat.mul_assoc]
  exact Nat.mul_mod_right _ _
theorem nR_more {l : List Nat} {k r : Nat} (h0 : 0 < r) (h : l.length ≤ r) (hn : 0 < nR l k r) : r ≤ l.length + k := by
  rcases Nat.lt_or_ge (l.length + k) r with hlt | hge
  · exfalso
    unfold nR dR at hn
    rw [if_neg (by omega), pR_end l (show l.length ≤ r - 1 by omega), pow10_two (by omega)] at hn
    omega
  · exact hge
theorem r0_le {l : List Nat} (hL : Lead l) {k r0 : Nat} (h : pR l (r0 - 1) < 2 ^ k) : r0 ≤ l.length + k := by
  rcases Nat.lt_or_ge (l.length + k) r0 with hlt | hge
  · exfalso
    rw [pR_end l (show l.length ≤ r0 - 1 by omega)] at h
    have h1 : 2 ^ k ≤ 10 ^ (r0 - 1 - l.length) := Nat.le_trans (Nat.pow_le_pow_left (by omega) k) (Nat.pow_le_pow_right (by omega) (by omega))
    have h2 := Nat.mul_le_mul hL.pos h1
    omega
  · exact hge
theorem and_mask {N M k : Nat} (hN : N < 18446744073709551616) (hk : k ≤ 60) (hM : M = 2 ^ k - 1) : bits BinOp.and IntKind.u64 (N : Int) (M : Int) = ((N % 2 ^ k : Nat) : Int) := by
  have h1 := pow60 hk
  rw [u64_and_nat N M hN (by omega), hM, Nat.and_two_pow_sub_one_eq_mod]
theorem shr_nat (n k : Nat) : (n : Int) / 2 ^ k = ((n / 2 ^ k : Nat) : Int) := by rw [Int.natCast_ediv, Int.natCast_pow]; rfl
theorem shr_small {n k : Nat} (h : n < 2 ^ k) : (n : Int) / 2 ^ k = 0 := by rw [shr_nat, Nat.div_eq_of_lt h]; rfl
theorem shr_big {n k : Nat} (h : 2 ^ k ≤ n) : ∃ Q : Nat, (n : Int) / 2 ^ k = (Q : Int) ∧ 0 < Q ∧ ((Q : Int) == 0) = false := by
  have h1 := Nat.div_pos h (Nat.pow_pos (by omega))
  refine ⟨n / 2 ^ k, shr_nat n k, h1, ?_⟩
  generalize n / 2 ^ k = Q at *
  simp
  omega

set_option maxHeartbeats 4000000 in
set_option maxRecDepth 100000 in
theorem rightShift_any (b : Nat) (D : List Nat) (l : List Nat) (dp : Int) (neg tr : Bool) (k : Nat) (w : World) (h : DecBox w b D (l.length : Nat) dp neg tr) (ht : D.take l.length = l) (hl : l.length ≤ 800) (hL : Lead l) (k1 : 1 ≤ k) (k2 : k ≤ 60) (p0 : -3000 ≤ dp) (p1 : dp ≤ 3000) :
    Calls Tryd.prog 60 #[.pointer (some ⟨b, 0, none⟩), .int .u64 k] w (Shifts b l dp 1 (2 ^ k) neg tr w) := by
  obtain ⟨r0, z1, z2, z3, z4⟩ := exists_r0 hL k2
  obtain ⟨P, hP⟩ : ∃ P : Nat, P = 2 ^ k := ⟨_, rfl⟩
  have hp2 := pow60 k2
  have hp0 : 0 < 2 ^ k := Nat.pow_pos (by omega)
  rw [← hP] at z3 z4 hp2 hp0
  have hlt0 : pR l r0 < 10 * P := by
    obtain ⟨s, rfl⟩ : ∃ s, r0 = s + 1 := ⟨r0 - 1, by omega⟩
    rw [Nat.add_sub_cancel] at z3
    have := dR_le hL.1 s
    rw [pR_succ]; omega
  have HPP := Lib.hid hP
  have H := Lib.hid h
  have HT := Lib.hid ht
  have HL := Lib.hid hL
  have Z3 := Lib.hid z3
  have Z4 := Lib.hid z4
  have c0 := h.nd_
  clear h ht hL z3 z4
  go_enter Tryd.func60, Tryd.ntmps60
  go_upto_block 0 with fail
  go_cut [4, 6] (fun r n wx => r = .int .i64 (r0 : Int) ∧ n = .int .u64 ((pR l r0 : Nat) : Int) ∧ wx = w)
  case first =>
    go_wp2_with fail
    go_loop [4, 6] (fun r n => ∃ i : Nat, i ≤ r0 ∧ i ≤ l.length ∧ r = .int .i64 (i : Int) ∧ n = .int .u64 ((pR l i : Nat) : Int)) (fun r _ => r0 - (intOf r).toNat)
    case atStart => exact ⟨0, by omega, by omega, rfl, by rw [pR_zero]; rfl⟩
    case round =>
      obtain ⟨i, hi1, hi2, rfl, rfl⟩ := hrel
      have hN9 : pR l i < 10 * P := Nat.lt_of_le_of_lt (pR_mono l hi1) hlt0
      have HNN := Lib.hid (pR_succ l i)
      by_cases hlt : pR l i < P
      · have hir : i < r0 := by
          rcases Nat.lt_or_ge i r0 with h | h
          · exact h
          · have := Z4.out; have := pR_mono l h; omega
        have e1 : ((pR l i : Nat) : Int) / 2 ^ k = 0 := shr_small (by rw [← HPP.out]; exact hlt)
        by_cases hil : i < l.length
        · have g0 := H.out.at_ (i := i) (by omega)
          have hx := digs_nth HL.out.1 hil
          have hx0 : nth D i = nth l i := by rw [← nth_take (l := D) hil, HT.out]
          rw [hx0] at g0
          have HR : Hid (dR l i = nth l i - 48) := if_pos hil
          generalize nth l i = x at *
          generalize pR l i = N at *
          clear hx0
          go_wp2_with fail
          go_round
          case rel => exact ⟨i + 1, by omega, by omega, by go_num, by rw [HNN.out, HR.out]; go_num⟩
          case measure => simp [intOf]; omega
        · obtain rfl : i = l.length := by omega
          have hN0 : 0 < pR l l.length := by
            have h1 := HL.out.2.1
            have h2 := pR_low HL.out (l.length - 1)
            rw [show l.length - 1 + 1 = l.length by omega] at h2
            exact Nat.lt_of_lt_of_le (Nat.pow_pos (by omega)) h2
          go_wp2_with fail
          go_loop [4, 6] (fun r n => ∃ j : Nat, l.length ≤ j ∧ j ≤ r0 ∧ r = .int .i64 (j : Int) ∧ n = .int .u64 ((pR l j : Nat) : Int)) (fun r _ => r0 - (intOf r).toNat)
          case atStart => exact ⟨l.length, by omega, by omega, rfl, rfl⟩
          case round =>
            obtain ⟨j, hj1, hj2, rfl, rfl⟩ := hrel
            have hM9 : pR l j < 10 * P := Nat.lt_of_le_of_lt (pR_mono l hj2) hlt0
            have HMM := Lib.hid (pR_succ l j)
            have HR : Hid (dR l j = 0) := if_neg (by omega)
            by_cases hlt2 : pR l j < P
            · have hjr : j < r0 := by
                rcases Nat.lt_or_ge j r0 with h | h
                · exact h
                · have := Z4.out; have := pR_mono l h; omega
              have e2 : ((pR l j : Nat) : Int) / 2 ^ k = 0 := shr_small (by rw [← HPP.out]; exact hlt2)
              clear e1
              go_wp2_with fail
              go_round
              case rel => exact ⟨j + 1, by omega, by omega, by go_num, by rw [HMM.out, HR.out]; go_num⟩
              case measure => simp [intOf]; omega
            · have hjr : j = r0 := by
                rcases Nat.eq_or_lt_of_le hj2 with h | h
                · exact h
                · have := Z3.out; have := pR_mono l (show j ≤ r0 - 1 by omega); omega
              subst hjr
              obtain ⟨Q, e2, e3, e4⟩ := shr_big (n := pR l j) (k := k) (by rw [← HPP.out]; omega)
              clear e1
              go_wp2_with fail
              go_meet
              exact ⟨rfl, rfl, rfl⟩
      · have hir : i = r0 := by
          rcases Nat.eq_or_lt_of_le hi1 with h | h
          · exact h
          · have := Z3.out; have := pR_mono l (show i ≤ r0 - 1 by omega); omega
        subst hir
        obtain ⟨Q, e2, e3, e4⟩ := shr_big (n := pR l i) (k := k) (by rw [← HPP.out]; omega)
        go_wp2_with fail
        go_meet
        exact ⟨rfl, rfl, rfl⟩
  case rest =>
    obtain ⟨rfl, rfl, rfl⟩ := hcut
    obtain ⟨w, rfl⟩ : ∃ w1 : World, w1 = wc := ⟨_, rfl⟩
    have c1 := H.out.dp_
    have f1 := H.out.free 801
    obtain ⟨dp1, hdp1⟩ : ∃ dp1 : Int, dp1 = dp - ((r0 : Int) - 1) := ⟨_, rfl⟩
    have hw1 : dp - ((r0 : Int) - 1) = dp1 := hdp1.symm
    have HD1 := Lib.hid (H.out.setDp dp1)
    have HO1 := Lib.hid ((Only.refl b w).setCell 801 (.int .i64 dp1))
    have HDP := Lib.hid hdp1
    obtain ⟨M, hM⟩ : ∃ M : Nat, M = P - 1 := ⟨_, rfl⟩
    have hM2 : M = 2 ^ k - 1 := by rw [hM, HPP.out]
    have e2k : ((2 : Int) ^ k) = (P : Int) := by rw [HPP.out, Int.natCast_pow]; rfl
    have hsh : IntKind.u64.wrap (2 ^ k - 1) = (M : Int) := by rw [e2k, IntWalk.u64_in _ (by omega)]; omega
    have hsh2 : IntKind.u64.wrap (IntKind.u64.wrap (2 ^ k) - 1) = (M : Int) := by rw [e2k, IntWalk.u64_in (P : Int) (by omega), IntWalk.u64_in _ (by omega)]; omega
    clear e2k
    have HM2 := Lib.hid hM2
    clear hM hM2 hdp1
    go_upto_block 4 with fail
    generalize w.setCell ⟨b, 801, none⟩ (.int .i64 dp1) = w1 at *
    clear c0 c1 f1 hw1 hsh hsh2
    go_wp2_with fail
    go_loopw [4, 5, 6] (fun r wi n wr => ∃ j : Nat, (j = 0 ∨ r0 + j ≤ l.length) ∧ r = .int .i64 ((r0 + j : Nat) : Int) ∧ wi = .int .i64 (j : Int) ∧ n = .int .u64 ((nR l k (r0 + j) : Nat) : Int) ∧ Hid (RShI w wr b l k r0 j dp1 neg tr)) (fun r _ _ _ => l.length - (intOf r).toNat)
    case atStart => exact ⟨0, .inl rfl, rfl, rfl, by rw [Nat.add_zero, nR_first z1 (by rw [← HPP.out]; exact Z3.out)], ⟨D, by rw [trR_small l k r0 (by omega), Bool.or_false]; exact HD1.out, RSt.start HT.out, HO1.out⟩⟩
    case round =>
      obtain ⟨j, hj, rfl, rfl, rfl, hst⟩ := hrel
      obtain ⟨D2, hd2, hs2, ho2⟩ := hst.out
      have n0 := hd2.nd_
      have hn9 := nR_lt HL.out.1 k (r0 + j)
      rw [← HPP.out] at hn9
      obtain ⟨N, hN⟩ : ∃ N : Nat, N = nR l k (r0 + j) := ⟨_, rfl⟩
      rw [← hN]
      obtain ⟨Q, hQ⟩ : ∃ Q : Nat, Q = N / 2 ^ k := ⟨_, rfl⟩
      obtain ⟨R, hR⟩ : ∃ R : Nat, R = N % 2 ^ k := ⟨_, rfl⟩
      have hQ9 : Q < 10 := by rw [hQ, Nat.div_lt_iff_lt_mul (Nat.pow_pos (by omega)), ← HPP.out, hN]; exact hn9
      have hR9 : R < P := by rw [hR, HPP.out]; exact Nat.mod_lt _ (Nat.pow_pos (by omega))
      have hN9 : N < 18446744073709551616 := by omega
      have e1 : (N : Int) / 2 ^ k = (Q : Int) := by rw [shr_nat, ← hQ]
      have e2 : bits BinOp.and IntKind.u64 (N : Int) (M : Int) = (R : Int) := by rw [and_mask hN9 k2 HM2.out, ← hR]
      have hpr := nR_parts HL.out.1 k (r := r0 + j) (by omega)
      have hnx := nR_next l k (r0 + j)
      rw [← hpr.2.1, ← hN, ← hR] at hnx
      have HNX := Lib.hid hnx
      have HNN := Lib.hid hN
      have HQ := Lib.hid hQ
      have HD2 := Lib.hid hd2
      have HS2 := Lib.hid hs2
      have HO2 := Lib.hid ho2
      clear hst hd2 hs2 ho2 hnx hpr hQ hR hn9 hN
      by_cases hlt : r0 + j < l.length
      · have hj8 : j < 800 := by omega
        have g0 := HD2.out.at_ (i := r0 + j) (by omega)
        have hx0 : nth D2 (r0 + j) = nth l (r0 + j) := HS2.out.2 _ (by omega) hlt
        rw [hx0] at g0
        have hx := digs_nth HL.out.1 hlt
        have HR : Hid (dR l (r0 + j) = nth l (r0 + j) - 48) := if_pos hlt
        have k0 := HD2.out.at_ (i := j) hj8
        have f0 := HD2.out.free j
        obtain ⟨x, hxx⟩ : ∃ x : Nat, x = nth l (r0 + j) := ⟨_, rfl⟩
        rw [← hxx] at g0 hx HR
        clear hxx hx0
        go_wp2_with fail
        go_roundw
        case rel => exact ⟨j + 1, by omega, by go_num, by go_num, by rw [show r0 + (j + 1) = r0 + j + 1 by omega, HNX.out, HR.out]; go_num, RShI.put HD2.out HS2.out HO2.out HL.out.1 z1 hj8 (by rw [← HNN.out, ← HQ.out]; omega)⟩
        case measure => simp [intOf]; omega
      · have hst0 : Hid (RShI w wr b l k r0 j dp1 neg tr) := ⟨D2, HD2.out, HS2.out, HO2.out⟩
        have hrk := r0_le HL.out (by rw [← HPP.out]; exact Z3.out)
        obtain rfl := HNN.out
        clear e1 e2 HNX HQ hQ9 hR9 hN9
        go_wp2_with fail
        obtain ⟨wo, rfl⟩ : ∃ wo : World, wo = wr := ⟨_, rfl⟩
        go_loopg [5, 6] (l.length + k + 1 - (r0 + j)) (fun g wi n wr => ∃ R : Nat, g + (r0 + R) = l.length + k + 1 ∧ l.length ≤ r0 + R ∧ wi = .int .i64 ((min R 800 : Nat) : Int) ∧ n = .int .u64 ((nR l k (r0 + R) : Nat) : Int) ∧ Hid (RShI w wr b l k r0 R dp1 neg tr))
        case atStart => exact ⟨j, by omega, by omega, by rw [show min j 800 = j by omega], rfl, hst0⟩
        case round =>
          obtain ⟨R, hg, hlR, rfl, rfl, hst⟩ := hrel
          obtain ⟨D2, hd2, hs2, ho2⟩ := hst.out
          clear hst0 n0 HD2 HS2 HO2
          have hn9 := nR_lt HL.out.1 k (r0 + R)
          rw [← HPP.out] at hn9
          by_cases hN0 : nR l k (r0 + R) = 0
          · have hR0 : 0 < R := by
              rcases Nat.eq_zero_or_pos R with e | e
              · exfalso
                have h1 := nR_first (l := l) (k := k) z1 (by rw [← HPP.out]; exact Z3.out)
                rw [e, Nat.add_zero] at hN0
                have := Z4.out
                omega
              · exact e
            have hS := shP_right (l := l) (dp := dp) tr HL.out.1 hl z1 (by rw [← HPP.out]; exact Z3.out) (by rw [← HPP.out]; exact Z4.out) hR0 hN0 hlR (by omega) z2 p0
            rw [← HDP.out] at hS
            have ht2 := hs2.done HL.out.1 z1 hR0 hd2.1
            have HLn := Lib.hid hd2.1
            have f0 := hd2.free 800
            have n0 := hd2.nd_
            obtain ⟨W8, hW8⟩ : ∃ W8 : Nat, W8 = min R 800 := ⟨_, rfl⟩
            rw [← hW8] at ht2 ⊢
            rw [hN0]
            have hW9 : W8 ≤ 800 := by omega
            have HD5 := Lib.hid (hd2.setNd (W8 : Int))
            have HO5 := Lib.hid (ho2.setCell 800 (.int .i64 (W8 : Int)))
            have HS := Lib.hid hS
            have HT2 := Lib.hid ht2
            clear hst hd2 hs2 ho2 hN0 hS ht2 hW8 hn9
            go_wp2_with fail
            refine (trimD_any b D2 W8 _ _ _ _ HD5.out hW9).mono ?_
            rintro e w2 hm
            obtain rfl := hm.1
            have HMk := Lib.hid hm
            clear hm
            go_wp2_with fail
            go_end0
            exact shift_end HMk.out HLn.out hW9 HT2.out HS.out HO5.out
          · have hmore := nR_more (by omega) hlR (show 0 < nR l k (r0 + R) by omega)
            obtain ⟨N, hN⟩ : ∃ N : Nat, N = nR l k (r0 + R) := ⟨_, rfl⟩
            rw [← hN] at hN0 hn9
            rw [← hN]
            obtain ⟨Q, hQ⟩ : ∃ Q : Nat, Q = N / 2 ^ k := ⟨_, rfl⟩
            obtain ⟨T, hT⟩ : ∃ T : Nat, T = N % 2 ^ k := ⟨_, rfl⟩
            have hQ9 : Q < 10 := by rw [hQ, Nat.div_lt_iff_lt_mul (Nat.pow_pos (by omega)), ← HPP.out]; exact hn9
            have hT9 : T < P := by rw [hT, HPP.out]; exact Nat.mod_lt _ (Nat.pow_pos (by omega))
            have hN9 : N < 18446744073709551616 := by omega
            have hN1 : 0 < N := by omega
            have e1 : (N : Int) / 2 ^ k = (Q : Int) := by rw [shr_nat, ← hQ]
            have e2 : bits BinOp.and IntKind.u64 (N : Int) (M : Int) = (T : Int) := by rw [and_mask hN9 k2 HM2.out, ← hT]
            have hpr := nR_parts HL.out.1 k (r := r0 + R) (by omega)
            have hnx := nR_next l k (r0 + R)
            rw [← hpr.2.1, ← hN, ← hT] at hnx
            have HR : Hid (dR l (r0 + R) = 0) := if_neg (by omega)
            have HNX := Lib.hid hnx
            have HNN := Lib.hid hN
            have HQ := Lib.hid hQ
            have HD2 := Lib.hid hd2
            have HS2 := Lib.hid hs2
            have HO2 := Lib.hid ho2
            clear hst hd2 hs2 ho2 hnx hpr hQ hT hn9 hN hN0
            by_cases hR8 : R < 800
            · have hR8' : (R : Int) < 800 := by omega
              rw [show min R 800 = R by omega]
              have k0 := HD2.out.at_ (i := R) hR8
              have f0 := HD2.out.free R
              go_wp2_with fail
              go_roundg (gk - 1)
              case measure => omega
              case rel => exact ⟨R + 1, by omega, by omega, by rw [show min (R + 1) 800 = R + 1 by omega]; go_num, by rw [show r0 + (R + 1) = r0 + R + 1 by omega, HNX.out, HR.out]; go_num, RShI.put HD2.out HS2.out HO2.out HL.out.1 z1 hR8 (by rw [← HNN.out, ← HQ.out]; omega)⟩
            · rw [show min R 800 = 800 by omega]
              have HM8 : Hid (min (R + 1) 800 = 800) := by show _ = _; omega
              have c3 := HD2.out.tr_
              have f3 := HD2.out.free 803
              by_cases hQ0 : Q = 0
              · have t0 : decide (0 < Q) = false := by simp; omega
                have HQ0 := Lib.hid hQ0
                clear hQ0
                go_wp2_with fail
                go_roundg (gk - 1)
                case measure => omega
                case rel => exact ⟨R + 1, by omega, by omega, by rw [HM8.out], by rw [show r0 + (R + 1) = r0 + R + 1 by omega, HNX.out, HR.out]; go_num, RShI.skip0 HD2.out HS2.out HO2.out HL.out.1 z1 (by omega) (by rw [← HNN.out, ← HQ.out]; exact HQ0.out)⟩
              · have t0 : 0 < Q := by omega
                have HQ0 := Lib.hid hQ0
                clear hQ0
                go_wp2_with fail
                go_roundg (gk - 1)
                case measure => omega
                case rel => exact ⟨R + 1, by omega, by omega, by rw [HM8.out], by rw [show r0 + (R + 1) = r0 + R + 1 by omega, HNX.out, HR.out]; go_num, RShI.skip1 HD2.out HS2.out HO2.out HL.out.1 z1 (by omega) (by rw [← HNN.out, ← HQ.out]; exact HQ0.out)⟩
end Go.Proofs.YtfndpecffhempaaDoor
