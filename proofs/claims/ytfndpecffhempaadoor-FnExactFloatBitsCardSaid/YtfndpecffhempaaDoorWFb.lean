/- The walk of FnExactFloatBits: the law returns true. -/
import Derived.Test.YtfndpecffhempaaDoorFbG
import Derived.Test.YtfndpecffhempaaDoorLayP
import Derived.Test.YtfndpecffhempaaDoorFBj
import Derived.Test.YtfndpecffhempaaDoorTid
namespace Go.Proofs.YtfndpecffhempaaDoor
open Go.RowKit

theorem rungQ_lt (F top num den : Nat) (least : Int) : rungQ F least top num den ≤ top * 2 ^ F := by
  unfold rungQ
  split
  · exact Nat.zero_le _
  · exact Nat.min_le_right _ _
theorem rungD_def (l : List Nat) (p : Int) : rungQ 52 (-1074) 2047 (numV l p) (denV l p) = rungD l p := rfl
theorem sgnB_false (sg r : Nat) : sgnB false sg r = r := rfl
theorem clear_top {r : Nat} (h : r < 9223372036854775808) (neg : Bool) : IntKind.u64.wrap (((sgnB neg 9223372036854775808 r : Nat) : Int) * 2) = ((2 * r : Nat) : Int) := by
  have e : sgnB neg 9223372036854775808 r = (if neg then 9223372036854775808 else 0) + r := by
    unfold sgnB
    cases neg
    · simp
    · rw [if_pos rfl, if_pos rfl, Nat.or_comm]
      have h9 := nat_join 63 (1 * 2 ^ 63) r (Nat.mul_mod_left _ _) (by omega)
      rw [Nat.or_comm]
      rw [show (9223372036854775808 : Nat) = 1 * 2 ^ 63 by decide]
      exact h9
  rw [e]
  cases neg
  · simp only [if_neg (show ¬ (false = true) by decide), Nat.zero_add]
    have : (r : Int) * 2 = ((2 * r : Nat) : Int) := by omega
    rw [this]; exact IntWalk.u64_in _ (by omega)
  · simp only [if_pos]
    show (((9223372036854775808 + r : Nat) : Int) * 2) % 18446744073709551616 = _
    omega

set_option maxHeartbeats 4000000 in
set_option maxRecDepth 100000 in
theorem walk_FnExactFloatBits (s : ByteArray) (a1 : Int) (neg : Bool) (w0 : s.size ≤ maxLen) (w1 : (Lit.int .i16 a1).wf = true) (w : World) (hT : PowT w w.heap.size ∧ Cheat w w.heap.size) :
    Calls Tryd.prog 6 #[.string s, .int .i16 a1, .bool neg] w fun e w' => e = .returned (.bool true) ∧ Below w.heap.size w w' := by
  obtain ⟨l0, rfl, hB, hsz'⟩ := bs_of s
  have hsz := bs_size l0
  have b1 := bounds_i16 w1
  have HBy := Lib.hid hB
  have HC := Lib.hid hT.2
  have HP := Lib.hid hT.1
  clear w0 w1 hsz' hB hT
  by_cases hbig : 2147483647 < l0.length
  · have hbig' : (2147483647 : Int) < (l0.length : Int) := by omega
    go_enter Tryd.func6, Tryd.ntmps6
    go_wp2_with fail
    go_ret
    exact ⟨rfl, Below.refl _ _⟩
  · have hbig' : ¬ (2147483647 : Int) < (l0.length : Int) := by omega
    have HDg := Lib.hid (sdL_digs l0)
    have HLn := Lib.hid (sdL_len l0)
    have HTd := Lib.hid (sd_tidy l0 a1)
    have HPb := Lib.hid (sdP_bounds l0 a1)
    go_enter Tryd.func6, Tryd.ntmps6
    go_wp2_with fail
    refine (sdecimal_any l0 a1 neg _ HBy.out (by omega) (by omega) (by omega)).mono ?_
    rintro e w2 ⟨rfl, hb2⟩
    generalize sdL l0 = l at *
    generalize sdP l0 a1 = p at *
    have hl := HLn.out
    obtain ⟨p0, p1⟩ := HPb.out
    have HB2 := Lib.hid (hb2.alloc hb2.size (.cells #[.string (bs l), .int .i64 p, .bool neg, .bool false] 25))
    have HK2 := Lib.hid (Box.new w2 25 #[.string (bs l), .int .i64 p, .bool neg, .bool false])
    clear hb2
    go_wp2_with fail
    generalize w2.alloc (.cells #[.string (bs l), .int .i64 p, .bool neg, .bool false] 25) = W2 at *
    generalize w2.heap.size = g at *
    refine (fbits_out l p neg _ w.heap.size HTd.out.lead (digs_bytes HDg.out) (by omega) (HC.out.later HB2.out (Nat.le_refl _)) (HP.out.later HB2.out (Nat.le_refl _)) (by omega) (by omega)).mono ?_
    rintro e w3 ⟨rfl, hb3⟩
    have HB3 := Lib.hid (HB2.out.trans (hb3.mono HB2.out.size))
    have HK3 := Lib.hid (HK2.out.later hb3 HK2.out.lt)
    clear hb3
    obtain ⟨z, hz⟩ : ∃ z : Nat, z = sgnB neg 9223372036854775808 (rungD l p) := ⟨_, rfl⟩
    rw [← hz]
    have hct := clear_top (r := rungD l p) (Nat.lt_of_le_of_lt (rungQ_lt 52 2047 _ _ _) (by decide)) neg
    rw [← hz] at hct
    have hrl : rungD l p < 9223372036854775808 := Nat.lt_of_le_of_lt (rungQ_lt 52 2047 _ _ _) (by decide)
    obtain ⟨q, hq⟩ : ∃ q : Bool, q = decide (rungD l p = 2047 * 2 ^ 52) := ⟨_, rfl⟩
    rw [← hq]
    have HQ := Lib.hid hq
    clear hz hq
    go_upto_region 5 with fail
    have d0 : w3.cell? ⟨g, 0, none⟩ = some (.string (bs l)) := by rw [HK3.out.cell 0]; rfl
    have d1 : w3.cell? ⟨g, 1, none⟩ = some (.int .i64 p) := by rw [HK3.out.cell 1]; rfl
    have d2 : w3.cell? ⟨g, 2, none⟩ = some (.bool neg) := by rw [HK3.out.cell 2]; rfl
    have d3 : w3.cell? ⟨g, 3, none⟩ = some (.bool false) := by rw [HK3.out.cell 3]; rfl
    go_wp2_with fail
    refine (value_any l p neg false _ HDg.out (by omega) (by omega) (by omega)).mono ?_
    rintro e w4 ⟨vn, vd, rfl, hn, hd, hb4⟩
    have HN := Lib.hid (show RatioIs w4 (.agg #[vn, vd]) (numV l p) (denV l p) from ⟨vn, vd, rfl, hn, hd⟩)
    have HB4 := Lib.hid (HB3.out.trans (hb4.mono HB3.out.size))
    clear hn hd hb4 d0 d1 d2 d3
    go_wp2_with fail
    refine (double_any _).mono ?_
    rintro e w5 ⟨rfl, hb5⟩
    have HN5 := Lib.hid (HN.out.later hb5)
    have HB5 := Lib.hid (HB4.out.trans (hb5.mono HB4.out.size))
    clear hb5
    go_wp2_with fail
    have l3 := numV_len (P := p) HDg.out (by omega) (by omega) (by omega)
    have l4 := denV_len (L := l) (P := p) (by omega) (by omega)
    have hden : denV l p ≠ 0 := by have : 0 < denV l p := Nat.pow_pos (by omega); omega
    refine (bits_double _ _ false _ _ HN5.out hden (by omega) (by omega)).mono ?_
    clear l3 l4 hden
    rintro e w6 ⟨rfl, hb6⟩
    have HB6 := Lib.hid (HB5.out.trans (hb6.mono HB5.out.size))
    have HQ' := HQ.out
    rw [rungD_def, ← HQ', sgnB_false]
    generalize rungD l p = r at *
    clear hb6 HQ' HQ
    go_upto_region 6 with fail
    go_wp2_with fail
    go_ret
    exact ⟨rfl, HB6.out⟩
end Go.Proofs.YtfndpecffhempaaDoor
