/- Plain of the reference, by a contract: the text that it returns. -/
import Derived.Test.YtekicbnfabpaeaaFmtF
import Derived.Test.YtekicbnfabpaeaaSci
import Derived.Test.YtekicbnfabpaeaaTimes
import Derived.Test.YtekicbnfabpaeaaWB10
import Derived.Deep.RegionWith
namespace Go.Proofs.Ytekicbnfabpaeaa
open Go.RowKit

theorem zeros_nat (q : Nat) (w : World) (h : q ≤ 100000) : Calls Try.prog 25 #[.int .i64 q] w (GivesText (List.replicate q 48) w) := by
  have := zeros_any q w (by omega)
  rwa [Int.toNat_natCast] at this

set_option maxHeartbeats 2000000 in
set_option maxRecDepth 100000 in
theorem plain_any (neg : Bool) (D : List Nat) (dp : Int) (p : Nat) (w : World) (h1 : D.length ≤ 60) (hp2 : p ≤ 1000) (d1 : -1000 < dp) (d2 : dp < 1000) :
    Calls Try.prog 31 #[.bool neg, .string (bs D), .int .i64 dp, .int .i64 p] w (GivesText (plainL neg D dp p) w) := by
  have hsz := bs_size D
  go_enter Try.func31, Try.ntmps31
  go_wp2_with fail
  refine (zeros_any _ _ (by omega)).mono ?_
  rintro e w1 ⟨rfl, hb1⟩
  have HB1 := Lib.hid hb1
  have hz1 : (bs (List.replicate (-dp).toNat 48)).size ≤ 1000 := by rw [bs_size]; simp; omega
  clear hb1
  obtain ⟨Z, hZ⟩ : ∃ Z, List.replicate (-dp).toNat 48 = Z := ⟨_, rfl⟩
  rw [hZ] at hz1 ⊢
  have HZ := Lib.hid hZ
  clear hZ
  go_upto_if 19 with fail
  go_cut [9, 10] (fun s t wx => s = .string (bs (wholeL D dp)) ∧ t = .string (bs (partL D dp)) ∧ Hid (Below w.heap.size w wx))
  case first =>
    by_cases hd : 0 < dp
    · obtain ⟨d, rfl⟩ := Int.eq_ofNat_of_zero_le (Int.le_of_lt hd)
      obtain ⟨m, hm⟩ : ∃ m, m = min D.length d := ⟨_, rfl⟩
      have EW := Lib.hid (show wholeL D d = D.take m ++ List.replicate (d - m) 48 by
        rw [wholeL, if_pos hd, Int.toNat_natCast]
        congr 1
        · rcases (show m = d ∨ (m = D.length ∧ D.length ≤ d) by omega) with h | ⟨h, h'⟩
          · rw [h]
          · rw [h, List.take_of_length_le h', List.take_of_length_le (Nat.le_refl _)]
        · congr 1; omega)
      have EP := Lib.hid (show partL D d = D.drop m by
        rw [partL, if_pos hd, Int.toNat_natCast]
        rcases (show m = d ∨ (m = D.length ∧ D.length ≤ d) by omega) with h | ⟨h, h'⟩
        · rw [h]
        · rw [h, List.drop_eq_nil_of_le h', List.drop_eq_nil_of_le (Nat.le_refl _)])
      have hm1 : m ≤ D.length := by omega
      have hm2 : m ≤ d := by omega
      go_upto_region 3 with fail
      go_cut [11] (fun s wx => s = .int .i64 m ∧ wx = w1)
      case first =>
        go_wp2_with fail
        all_goals (go_meet; exact ⟨congrArg _ (by omega), rfl⟩)
      case rest =>
        obtain ⟨rfl, rfl⟩ := hcut
        clear hm
        obtain ⟨q, hq⟩ : ∃ q, q = d - m := ⟨_, rfl⟩
        have hwq : IntKind.i64.wrap ((d : Int) - (m : Int)) = (q : Int) := by rw [IntWalk.i64_in _ (by omega)]; omega
        rw [← hq] at EW
        have hq9 : q ≤ 1000 := by omega
        have ht : (bs D).extract 0 m = bs (D.take m) := bs_take D m
        have hdr : (bs D).extract m D.length = bs (D.drop m) := bs_drop' D m
        have hz2 : (bs (D.take m)).size ≤ 100 := by rw [bs_size]; simp; omega
        have hz3 : (bs (List.replicate q 48)).size ≤ 1000 := by rw [bs_size]; simp; omega
        clear hq
        go_upto_region 4 with fail
        go_region_with
          (go_at_call 25; refine (zeros_nat q _ (by omega)).mono ?_; rintro e' w4 ⟨rfl, hb4'⟩; have hb4 := undrew hb4')
        all_goals
          have HB4 := Lib.hid (HB1.out.trans (hb4.mono HB1.out.size))
          clear hb4 hb4'
          go_wp2_with fail
          go_meet
          exact ⟨val_text (by rw [EW.out, bs_append]), val_text (by rw [EP.out]), HB4.out⟩
    · have EW := Lib.hid (show wholeL D dp = [48] by rw [wholeL, if_neg hd])
      have EP := Lib.hid (show partL D dp = List.replicate (-dp).toNat 48 ++ D by rw [partL, if_neg hd])
      go_wp2_with fail
      go_meet
      exact ⟨val_text (by rw [EW.out]; rfl), val_text (by rw [EP.out, HZ.out, bs_append]), HB1.out⟩
  case rest =>
    obtain ⟨rfl, rfl, hb⟩ := hcut
    have SC : Hid (plainL neg D dp p = signL neg ++ wholeL D dp ++ fracF D dp p) := rfl
    have SF : Hid (0 < p → fracF D dp p = [46] ++ (partL D dp ++ List.replicate p 48).take p) := fun h => by rw [fracF, if_pos h]
    have SN : Hid (¬ 0 < p → fracF D dp p = []) := fun h => by rw [fracF, if_neg h]
    have hlw : (wholeL D dp).length ≤ 3000 := by unfold wholeL; split <;> simp <;> omega
    have hlp : (partL D dp).length ≤ 3000 := by unfold partL; split <;> simp <;> omega
    have hls := signL_len neg
    generalize wholeL D dp = Wh at *
    generalize partL D dp = Pa at *
    generalize fracF D dp p = Fr at *
    have hz4 := bs_size Wh
    have hz5 := bs_size Pa
    have hz6 := bs_size (signL neg)
    go_wp2_with fail
    refine (sign_any _ _).mono ?_
    rintro e w5 ⟨rfl, rfl⟩
    go_upto_if 40 with fail
    by_cases hp0 : 0 < p
    · have hz7 : (bs (List.replicate p 48)).size = p := by rw [bs_size]; simp
      have ht : (bs (Pa ++ List.replicate p 48)).extract 0 p = bs ((Pa ++ List.replicate p 48).take p) := bs_take _ p
      have hz8 : (bs (Pa ++ List.replicate p 48)).size = Pa.length + p := by rw [bs_size]; simp
      have hz9 : (bs ((Pa ++ List.replicate p 48).take p)).size ≤ 1000 := by rw [bs_size]; simp; omega
      have hap := bs_append Pa (List.replicate p 48)
      have hk : (⟨#[46]⟩ : ByteArray).size = 1 := rfl
      go_wp2_with fail
      refine (zeros_any _ _ (by omega)).mono ?_
      rintro e w6 ⟨rfl, hb6⟩
      rw [Int.toNat_natCast]
      have HB6 := Lib.hid (hb.out.trans (hb6.mono hb.out.size))
      clear hb6
      go_wp2_with fail
      go_ret
      exact ⟨ret_text (by rw [SC.out, SF.out hp0, ← bs_append, ← bs_append, ← bs_append]; rfl), HB6.out⟩
    · have hp' : (p : Int) ≤ 0 := by omega
      go_wp2_with fail
      go_ret
      exact ⟨ret_text (by rw [SC.out, SN.out hp0, List.append_nil, ← bs_append]), hb.out⟩
end Go.Proofs.Ytekicbnfabpaeaa
