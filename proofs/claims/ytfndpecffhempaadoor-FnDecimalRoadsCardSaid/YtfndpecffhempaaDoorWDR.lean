/- The walk of FnDecimalRoads: the law returns true. -/
import Derived.Test.YtfndpecffhempaaDoorFbG
import Derived.Test.YtfndpecffhempaaDoorLayP
import Derived.Test.YtfndpecffhempaaDoorPars
import Derived.Test.YtfndpecffhempaaDoorShL
namespace Go.Proofs.YtfndpecffhempaaDoor
open Go.RowKit

theorem rungD_lt (l : List Nat) (p : Int) : rungD l p < 9223372036854775808 := by
  have h : rungD l p ≤ 2047 * 2 ^ 52 := by
    unfold rungD rungQ
    split
    · exact Nat.zero_le _
    · exact Nat.min_le_right _ _
  exact Nat.lt_of_le_of_lt h (by decide)
theorem sgnB_no (sg r : Nat) : sgnB false sg r = r := rfl
theorem clear_sign {r : Nat} (h : r < 9223372036854775808) (neg : Bool) : IntKind.u64.wrap (((sgnB neg 9223372036854775808 r : Nat) : Int) * 2) = ((2 * r : Nat) : Int) := by
  have e : sgnB neg 9223372036854775808 r = (if neg then 9223372036854775808 else 0) + r := by
    unfold sgnB
    cases neg
    · simp
    · rw [if_pos rfl, if_pos rfl]
      have h9 := nat_join 63 (1 * 2 ^ 63) r (Nat.mul_mod_left _ _) (by omega)
      rw [show (9223372036854775808 : Nat) = 1 * 2 ^ 63 by decide]
      exact h9
  rw [e]
  cases neg
  · simp only [if_neg (show ¬ (false = true) by decide), Nat.zero_add]
    have : (r : Int) * 2 = ((2 * r : Nat) : Int) := by omega
    rw [this]; exact IntWalk.u64_in _ (by omega)
  · simp only [if_pos]
    show (((9223372036854775808 + r : Nat) : Int) * 2) % 18446744073709551616 = _
    omega
theorem tidy_zero {l : List Nat} {p : Int} (h : Tidy l p) : headL ([48] ++ l) = l := by
  rw [headL_hit (by simp) rfl]
  show headL l = l
  rcases h with ⟨h, _⟩ | ⟨h, _⟩
  · rw [List.eq_nil_of_length_eq_zero h]; rfl
  · exact headL_miss h.2.1 h.2.2
theorem dig48 : Digs [48] := fun x hx => by simp at hx; omega

set_option maxHeartbeats 4000000 in
set_option maxRecDepth 100000 in
theorem walk_FnDecimalRoads (s : ByteArray) (a1 : Int) (neg : Bool) (w0 : s.size ≤ maxLen) (w1 : (Lit.int .i16 a1).wf = true) (w : World) (hT : PowT w w.heap.size ∧ Cheat w w.heap.size) :
    Calls Tryd.prog 9 #[.string s, .int .i16 a1, .bool neg] w fun e w' => e = .returned (.bool true) ∧ Below w.heap.size w w' := by
  obtain ⟨l0, rfl, hB, hsz'⟩ := bs_of s
  have hsz := bs_size l0
  have b1 := bounds_i16 w1
  have HBy := Lib.hid hB
  have HC := Lib.hid hT.2
  have HP := Lib.hid hT.1
  clear w0 w1 hsz' hB hT
  by_cases hbig : 2147483647 < l0.length
  · have hbig' : (2147483647 : Int) < (l0.length : Int) := by omega
    go_enter Tryd.func9, Tryd.ntmps9
    go_wp2_with fail
    go_ret
    exact ⟨rfl, Below.refl _ _⟩
  · have hbig' : ¬ (2147483647 : Int) < (l0.length : Int) := by omega
    have HDg := Lib.hid (sdL_digs l0)
    have HLn := Lib.hid (sdL_len l0)
    have HTd := Lib.hid (sd_tidy l0 a1)
    have HPb := Lib.hid (sdP_bounds l0 a1)
    go_enter Tryd.func9, Tryd.ntmps9
    go_wp2_with fail
    refine (sdecimal_any l0 a1 neg _ HBy.out (by omega) (by omega) (by omega)).mono ?_
    rintro e w2 ⟨rfl, hb2⟩
    generalize sdL l0 = l at *
    generalize sdP l0 a1 = p at *
    have hl := HLn.out
    obtain ⟨p0, p1⟩ := HPb.out
    have HB2 := Lib.hid (hb2.alloc hb2.size (.cells #[.string (bs l), .int .i64 p, .bool neg, .bool false] 25))
    have HK2 := Lib.hid (Box.new w2 25 #[.string (bs l), .int .i64 p, .bool neg, .bool false])
    clear hb2
    go_wp2_with fail
    generalize w2.alloc (.cells #[.string (bs l), .int .i64 p, .bool neg, .bool false] 25) = W2 at *
    generalize w2.heap.size = g at *
    refine (fbits_out l p neg _ w.heap.size HTd.out.lead (digs_bytes HDg.out) (by omega) (HC.out.later HB2.out (Nat.le_refl _)) (HP.out.later HB2.out (Nat.le_refl _)) (by omega) (by omega)).mono ?_
    rintro e w3 ⟨rfl, hb3⟩
    have HB3 := Lib.hid (HB2.out.trans (hb3.mono HB2.out.size))
    have HK3 := Lib.hid (HK2.out.later hb3 HK2.out.lt)
    clear hb3
    obtain ⟨r, hr⟩ : ∃ r : Nat, r = rungD l p := ⟨_, rfl⟩
    rw [← hr]
    have hrl : r < 9223372036854775808 := by rw [hr]; exact rungD_lt l p
    obtain ⟨z, hz⟩ : ∃ z : Nat, z = sgnB neg 9223372036854775808 r := ⟨_, rfl⟩
    rw [← hz]
    have hct := clear_sign hrl neg
    rw [← hz] at hct
    obtain ⟨q, hq⟩ : ∃ q : Bool, q = decide (r = 2047 * 2 ^ 52) := ⟨_, rfl⟩
    rw [← hq]
    have HR := Lib.hid hr
    have HZ := Lib.hid hz
    have HQ := Lib.hid hq
    clear hz hq hr
    go_upto_region 5 with fail
    have d0 : w3.cell? ⟨g, 0, none⟩ = some (.string (bs l)) := by rw [HK3.out.cell 0]; rfl
    have d1 : w3.cell? ⟨g, 1, none⟩ = some (.int .i64 p) := by rw [HK3.out.cell 1]; rfl
    have d2 : w3.cell? ⟨g, 2, none⟩ = some (.bool neg) := by rw [HK3.out.cell 2]; rfl
    have d3 : w3.cell? ⟨g, 3, none⟩ = some (.bool false) := by rw [HK3.out.cell 3]; rfl
    go_wp2_with fail
    refine (shift_out l (-1) p neg false _ w.heap.size HTd.out.lead (digs_bytes HDg.out) (by omega) (HC.out.later HB3.out (Nat.le_refl _)) (by omega) (by omega) (by omega) (by omega)).mono ?_
    rintro e w4 ⟨L1, P1, tr1, hq1, rfl, hb4⟩
    have HQ1 := Lib.hid hq1
    have hx1 := shK_exact hq1 HTd.out (by omega) (by omega) (by omega) (by omega) (by omega)
    obtain ⟨rfl, hL1, hP0, hP1, hT1, _, _⟩ := hx1
    have HT1 := Lib.hid hT1
    have HB4 := Lib.hid (HB3.out.trans (hb4.mono HB3.out.size))
    have HK4 := Lib.hid (HK3.out.later hb4 HK3.out.lt)
    clear hq1 hT1 hb4 d0 d1 d2 d3
    go_wp2_with fail
    refine (shift_out L1 1 P1 neg false _ w.heap.size HT1.out.lead (digs_bytes HT1.out.digs) (by omega) (HC.out.later HB4.out (Nat.le_refl _)) (by omega) (by omega) (by omega) (by omega)).mono ?_
    rintro e w5 ⟨L2, P2, tr2, hq2, rfl, hb5⟩
    obtain ⟨rfl, rfl⟩ := shK_back (K := -1) HQ1.out (by exact hq2) HTd.out (by omega) (by omega) (by omega) (by omega) (by omega)
    have hx2 := shK_exact hq2 HT1.out (by omega) (by omega) (by omega) (by omega) (by omega)
    obtain ⟨rfl, _⟩ := hx2
    have HB5 := Lib.hid (HB4.out.trans (hb5.mono HB4.out.size))
    have HK5 := Lib.hid (HK4.out.later hb5 HK4.out.lt)
    clear hq2 hb5
    go_wp2_with fail
    refine (fbits_out L2 P2 neg _ w.heap.size HTd.out.lead (digs_bytes HDg.out) (by omega) (HC.out.later HB5.out (Nat.le_refl _)) (HP.out.later HB5.out (Nat.le_refl _)) (by omega) (by omega)).mono ?_
    rintro e w6 ⟨rfl, hb6⟩
    rw [← HR.out, ← HZ.out, ← HQ.out]
    have HB6 := Lib.hid (HB5.out.trans (hb6.mono HB5.out.size))
    have HK6 := Lib.hid (HK5.out.later hb6 HK5.out.lt)
    clear hb6
    go_upto_region 6 with fail
    have d0 : w6.cell? ⟨g, 0, none⟩ = some (.string (bs L2)) := by rw [HK6.out.cell 0]; rfl
    have d1 : w6.cell? ⟨g, 1, none⟩ = some (.int .i64 P2) := by rw [HK6.out.cell 1]; rfl
    have hw16 : IntKind.i16.wrap P2 = P2 := IntWalk.i16_in _ (by omega)
    go_wp2_with fail
    refine (text_any false [48] L2 P2 _ (by simp) (by omega) (by omega) (by omega)).mono ?_
    rintro e w7 ⟨rfl, hb7⟩
    have HB7 := Lib.hid (HB6.out.trans (hb7.mono HB6.out.size))
    clear hb7 d0 d1
    go_wp2_with fail
    refine (parse_out [48] L2 false P2 _ dig48 HDg.out (by simp) hl (by omega) (by omega)).mono ?_
    rintro e w8 ⟨dp, rfl, _, _, hdp, hb8⟩
    have hz1 := tidy_zero HTd.out
    have hdp2 : dp = P2 := by
      have h9 := hdp (by simp)
      rw [hz1] at h9
      rw [h9]
      simp
      omega
    subst hdp2
    have hx9 : decide (0 < ([48] ++ L2 : List Nat).length) = true := decide_eq_true (by simp)
    rw [hz1, hx9]
    clear hx9
    have HB8 := Lib.hid (HB7.out.trans (hb8.mono HB7.out.size))
    have HB9 := Lib.hid (HB8.out.alloc HB8.out.size (.cells #[.string (bs L2), .int .i64 dp, .bool false, .bool false] 25))
    clear hb8 hdp hz1
    go_wp2_with fail
    generalize w8.alloc (.cells #[.string (bs L2), .int .i64 dp, .bool false, .bool false] 25) = W9 at *
    refine (fbits_out L2 dp false _ w.heap.size HTd.out.lead (digs_bytes HDg.out) (by omega) (HC.out.later HB9.out (Nat.le_refl _)) (HP.out.later HB9.out (Nat.le_refl _)) (by omega) (by omega)).mono ?_
    rintro e w10 ⟨rfl, hb10⟩
    rw [← HR.out, sgnB_no, ← HQ.out]
    have HB10 := Lib.hid (HB9.out.trans (hb10.mono HB9.out.size))
    clear hb10 HR HZ HQ
    go_upto_region 8 with fail
    go_wp2_with fail
    go_ret
    exact ⟨rfl, HB10.out⟩
end Go.Proofs.YtfndpecffhempaaDoor
