/- The walks of FnExactLog10Pow2 and FnExactLog2Pow10: both laws return true. -/
import Derived.Test.YtekicbnfabpaeaaCmp
import Derived.Test.YtekicbnfabpaeaaLogP
import Derived.OpenShut
namespace Go.Proofs.Ytekicbnfabpaeaa
open Go.RowKit

theorem ret_true {b : Bool} (h : b = true) : Ending.returned (.bool b) = .returned (.bool true) := by rw [h]
/-- a logarithm: its bounds, and what else is known of it -/
def Log10Post (x : Int) (w : World) (e : Ending) (w' : World) : Prop := ∃ r : Int, -400 ≤ r ∧ r ≤ 400 ∧ Hid (r = lg10 x) ∧ e = .returned (.int .i64 r) ∧ w = w'
def Log2Post (x : Int) (w : World) (e : Ending) (w' : World) : Prop := ∃ r : Int, -2000 ≤ r ∧ r ≤ 2000 ∧ Hid (r = lg2 x) ∧ e = .returned (.int .i64 r) ∧ w = w'

theorem log10_out (x : Int) (w : World) (h0 : -1074 ≤ x) (h1 : x ≤ 1023) : Calls Try.prog 14 #[.int .i64 x] w (Log10Post x w) := by
  have h := lg10_good h0 h1
  have H := Lib.hid h
  clear h
  go_enter Try.func14, Try.ntmps14
  go_wp2
  go_ret
  exact ⟨_, H.out.1, H.out.2.1, rfl, rfl, rfl⟩
theorem log2_out (x : Int) (w : World) (h0 : -348 ≤ x) (h1 : x ≤ 347) : Calls Try.prog 18 #[.int .i64 x] w (Log2Post x w) := by
  have h := lg2_good h0 h1
  have H := Lib.hid h
  clear h
  go_enter Try.func18, Try.ntmps18
  go_wp2
  go_ret
  exact ⟨_, H.out.1, H.out.2.1, rfl, rfl, rfl⟩

theorem len_one : Num.len 1 = 1 := Num.len_small (by decide) (by decide)
theorem len_p2 {k n : Nat} (h : k ≤ n) : Num.len (2 ^ k) ≤ (n + 32) / 32 := by
  have := Num.len_two (n := 2 ^ k) (k := n + 1) (Nat.pow_lt_pow_right (by omega) (by omega))
  omega
theorem len_p10 {k n : Nat} (h : k ≤ n) : Num.len (10 ^ k) ≤ n / 8 + 1 := by
  have := Num.len_pow10 k
  omega
theorem geq_cmp {a b : Nat} (h : b ≤ a) : 0 ≤ cmpN a b := by
  unfold cmpN
  rw [if_neg (by omega)]
  split <;> omega
theorem lt_cmp {a b : Nat} (h : a < b) : cmpN a b < 0 := by
  rw [cmpN_lt h]; omega

set_option maxHeartbeats 1000000 in
theorem walk_FnExactLog10Pow2 (a0 : Int) (w0 : (Lit.int .u16 a0).wf = true) (w : World) :
    Calls Try.prog 3 #[.int .u16 a0] w fun e w' => e = .returned (.bool true) ∧ Below w.heap.size w w' := by
  have b0 := bounds_u16 w0
  obtain ⟨n, rfl⟩ := Int.eq_ofNat_of_zero_le b0.1
  clear w0
  have hx0 : -1074 ≤ (n : Int) % 2098 - 1074 := by omega
  have hx1 : (n : Int) % 2098 - 1074 ≤ 1023 := by omega
  go_enter Try.func3, Try.ntmps3
  go_wp2_with fail
  generalize (n : Int) % 2098 - 1074 = x at *
  refine (log10_out x _ hx0 hx1).mono ?_
  rintro e' w' ⟨r, r0, r1, hr, rfl, rfl⟩
  have L1 : Num.len (1 * 2 ^ x.toNat * 10 ^ (0 : Int).toNat) ≤ 200 := by have := len_p2 (k := x.toNat) (n := 1074) (by omega); simp; omega
  have L2 : Num.len (2 ^ (-x).toNat * 10 ^ (-(0 : Int)).toNat) ≤ 200 := by have := len_p2 (k := (-x).toNat) (n := 1074) (by omega); simp; omega
  have L3 : Num.len (1 * 2 ^ (0 : Int).toNat * 10 ^ r.toNat) ≤ 200 := by have := len_p10 (k := r.toNat) (n := 401) (by omega); simp; omega
  have L4 : Num.len (2 ^ (-(0 : Int)).toNat * 10 ^ (-r).toNat) ≤ 200 := by have := len_p10 (k := (-r).toNat) (n := 401) (by omega); simp; omega
  have L5 : Num.len (1 * 2 ^ (0 : Int).toNat * 10 ^ (r + 1).toNat) ≤ 200 := by have := len_p10 (k := (r + 1).toNat) (n := 401) (by omega); simp; omega
  have L6 : Num.len (2 ^ (-(0 : Int)).toNat * 10 ^ (-(r + 1)).toNat) ≤ 200 := by have := len_p10 (k := (-(r + 1)).toNat) (n := 401) (by omega); simp; omega
  have G := lg10_good hx0 hx1
  rw [← hr.out] at G
  have G1 : 0 ≤ cmpN (1 * 2 ^ x.toNat * 10 ^ (0 : Int).toNat * (2 ^ (-(0 : Int)).toNat * 10 ^ (-r).toNat)) (1 * 2 ^ (0 : Int).toNat * 10 ^ r.toNat * (2 ^ (-x).toNat * 10 ^ (-(0 : Int)).toNat)) := geq_cmp (by simpa using G.2.2.1)
  have G2 : cmpN (1 * 2 ^ x.toNat * 10 ^ (0 : Int).toNat * (2 ^ (-(0 : Int)).toNat * 10 ^ (-(r + 1)).toNat)) (1 * 2 ^ (0 : Int).toNat * 10 ^ (r + 1).toNat * (2 ^ (-x).toNat * 10 ^ (-(0 : Int)).toNat)) < 0 := lt_cmp (by simpa using G.2.2.2)
  have HG1 := Lib.hid G1
  have HG2 := Lib.hid G2
  have HL := Lib.hid (And.intro L1 (And.intro L2 (And.intro L3 (And.intro L4 (And.intro L5 L6)))))
  clear G G1 G2 L1 L2 L3 L4 L5 L6
  go_wp2_with fail
  refine (natOf_any 1 _ (by omega) (by omega)).mono ?_
  rintro e' w1 ⟨v, rfl, hv0, hb1⟩
  have hv : Hid (IsNat w1 v 1) := hv0
  have HB1 := Lib.hid hb1
  clear hv0 hb1
  go_wp2_with fail
  refine (times_any _ 1 x (0 : Int) _ hv.out (by rw [len_one]; omega) (by omega) (by omega) (by omega) (by omega)).mono ?_
  rintro e' w2 ⟨n1, d1, rfl, hn1, hd1, hb2⟩
  have HN1 := Lib.hid hn1
  have HD1 := Lib.hid hd1
  have HB2 := Lib.hid hb2
  clear hn1 hd1 hb2
  go_wp2_with fail
  refine (times_any _ 1 (0 : Int) r _ (hv.out.later HB2.out) (by rw [len_one]; omega) (by omega) (by omega) (by omega) (by omega)).mono ?_
  rintro e' w3 ⟨n2, d2, rfl, hn2, hd2, hb3⟩
  have HN2 := Lib.hid hn2
  have HD2 := Lib.hid hd2
  have HB3 := Lib.hid hb3
  clear hn2 hd2 hb3
  go_wp2_with fail
  refine (cmp_any _ _ (1 * 2 ^ x.toNat * 10 ^ (0 : Int).toNat) (2 ^ (-x).toNat * 10 ^ (-(0 : Int)).toNat) (1 * 2 ^ (0 : Int).toNat * 10 ^ r.toNat) (2 ^ (-(0 : Int)).toNat * 10 ^ (-r).toNat) _ ⟨_, _, rfl, HN1.out.later HB3.out, HD1.out.later HB3.out⟩ ⟨_, _, rfl, HN2.out, HD2.out⟩ (by have := HL.out; omega) (by have := HL.out; omega)).mono ?_
  rintro e' w4 ⟨rfl, hb4⟩
  have HB4 := Lib.hid hb4
  have G1 := HG1.out
  clear hb4
  generalize cmpN (1 * 2 ^ x.toNat * 10 ^ (0 : Int).toNat * (2 ^ (-(0 : Int)).toNat * 10 ^ (-r).toNat)) (1 * 2 ^ (0 : Int).toNat * 10 ^ r.toNat * (2 ^ (-x).toNat * 10 ^ (-(0 : Int)).toNat)) = q1 at *
  clear HG1
  have HB24 := Lib.hid ((HB2.out.trans (HB3.out.mono HB2.out.size)).trans (HB4.out.mono (Nat.le_trans HB2.out.size HB3.out.size)))
  go_wp2_with fail
  refine (times_any _ 1 x (0 : Int) _ (hv.out.later HB24.out) (by rw [len_one]; omega) (by omega) (by omega) (by omega) (by omega)).mono ?_
  rintro e' w5 ⟨n3, d3, rfl, hn3, hd3, hb5⟩
  have HN3 := Lib.hid hn3
  have HD3 := Lib.hid hd3
  have HB5 := Lib.hid hb5
  clear hn3 hd3 hb5
  have HB25 := Lib.hid (HB24.out.trans (HB5.out.mono HB24.out.size))
  go_wp2_with fail
  refine (times_any _ 1 (0 : Int) (r + 1) _ (hv.out.later HB25.out) (by rw [len_one]; omega) (by omega) (by omega) (by omega) (by omega)).mono ?_
  rintro e' w6 ⟨n4, d4, rfl, hn4, hd4, hb6⟩
  have HN4 := Lib.hid hn4
  have HD4 := Lib.hid hd4
  have HB6 := Lib.hid hb6
  clear hn4 hd4 hb6
  go_wp2_with fail
  refine (cmp_any _ _ (1 * 2 ^ x.toNat * 10 ^ (0 : Int).toNat) (2 ^ (-x).toNat * 10 ^ (-(0 : Int)).toNat) (1 * 2 ^ (0 : Int).toNat * 10 ^ (r + 1).toNat) (2 ^ (-(0 : Int)).toNat * 10 ^ (-(r + 1)).toNat) _ ⟨_, _, rfl, HN3.out.later HB6.out, HD3.out.later HB6.out⟩ ⟨_, _, rfl, HN4.out, HD4.out⟩ (by have := HL.out; omega) (by have := HL.out; omega)).mono ?_
  rintro e' w7 ⟨rfl, hb7⟩
  have HB7 := Lib.hid hb7
  have G2 := HG2.out
  clear hb7
  generalize cmpN (1 * 2 ^ x.toNat * 10 ^ (0 : Int).toNat * (2 ^ (-(0 : Int)).toNat * 10 ^ (-(r + 1)).toNat)) (1 * 2 ^ (0 : Int).toNat * 10 ^ (r + 1).toNat * (2 ^ (-x).toNat * 10 ^ (-(0 : Int)).toNat)) = q2 at *
  clear HG2
  have HB26 := Lib.hid (HB25.out.trans (HB6.out.mono HB25.out.size))
  have HB27 := Lib.hid (HB26.out.trans (HB7.out.mono HB26.out.size))
  have HBF := Lib.hid (HB1.out.trans (HB27.out.mono HB1.out.size))
  go_wp2_with fail
  go_ret
  exact ⟨ret_true (by simp), HBF.out⟩

set_option maxHeartbeats 1000000 in
theorem walk_FnExactLog2Pow10 (a0 : Int) (w0 : (Lit.int .u16 a0).wf = true) (w : World) :
    Calls Try.prog 4 #[.int .u16 a0] w fun e w' => e = .returned (.bool true) ∧ Below w.heap.size w w' := by
  have b0 := bounds_u16 w0
  obtain ⟨n, rfl⟩ := Int.eq_ofNat_of_zero_le b0.1
  clear w0
  have hx0 : -348 ≤ (n : Int) % 696 - 348 := by omega
  have hx1 : (n : Int) % 696 - 348 ≤ 347 := by omega
  go_enter Try.func4, Try.ntmps4
  go_wp2_with fail
  generalize (n : Int) % 696 - 348 = x at *
  refine (log2_out x _ hx0 hx1).mono ?_
  rintro e' w' ⟨r, r0, r1, hr, rfl, rfl⟩
  have L1 : Num.len (1 * 2 ^ (0 : Int).toNat * 10 ^ x.toNat) ≤ 200 := by have := len_p10 (k := x.toNat) (n := 348) (by omega); simp; omega
  have L2 : Num.len (2 ^ (-(0 : Int)).toNat * 10 ^ (-x).toNat) ≤ 200 := by have := len_p10 (k := (-x).toNat) (n := 348) (by omega); simp; omega
  have L3 : Num.len (1 * 2 ^ r.toNat * 10 ^ (0 : Int).toNat) ≤ 200 := by have := len_p2 (k := r.toNat) (n := 2001) (by omega); simp; omega
  have L4 : Num.len (2 ^ (-r).toNat * 10 ^ (-(0 : Int)).toNat) ≤ 200 := by have := len_p2 (k := (-r).toNat) (n := 2001) (by omega); simp; omega
  have L5 : Num.len (1 * 2 ^ (r + 1).toNat * 10 ^ (0 : Int).toNat) ≤ 200 := by have := len_p2 (k := (r + 1).toNat) (n := 2001) (by omega); simp; omega
  have L6 : Num.len (2 ^ (-(r + 1)).toNat * 10 ^ (-(0 : Int)).toNat) ≤ 200 := by have := len_p2 (k := (-(r + 1)).toNat) (n := 2001) (by omega); simp; omega
  have G := lg2_good hx0 hx1
  rw [← hr.out] at G
  have G1 : 0 ≤ cmpN (1 * 2 ^ (0 : Int).toNat * 10 ^ x.toNat * (2 ^ (-r).toNat * 10 ^ (-(0 : Int)).toNat)) (1 * 2 ^ r.toNat * 10 ^ (0 : Int).toNat * (2 ^ (-(0 : Int)).toNat * 10 ^ (-x).toNat)) := geq_cmp (by simpa using G.2.2.1)
  have G2 : cmpN (1 * 2 ^ (0 : Int).toNat * 10 ^ x.toNat * (2 ^ (-(r + 1)).toNat * 10 ^ (-(0 : Int)).toNat)) (1 * 2 ^ (r + 1).toNat * 10 ^ (0 : Int).toNat * (2 ^ (-(0 : Int)).toNat * 10 ^ (-x).toNat)) < 0 := lt_cmp (by simpa using G.2.2.2)
  have HG1 := Lib.hid G1
  have HG2 := Lib.hid G2
  have HL := Lib.hid (And.intro L1 (And.intro L2 (And.intro L3 (And.intro L4 (And.intro L5 L6)))))
  clear G G1 G2 L1 L2 L3 L4 L5 L6
  go_wp2_with fail
  refine (natOf_any 1 _ (by omega) (by omega)).mono ?_
  rintro e' w1 ⟨v, rfl, hv0, hb1⟩
  have hv : Hid (IsNat w1 v 1) := hv0
  have HB1 := Lib.hid hb1
  clear hv0 hb1
  go_wp2_with fail
  refine (times_any _ 1 (0 : Int) x _ hv.out (by rw [len_one]; omega) (by omega) (by omega) (by omega) (by omega)).mono ?_
  rintro e' w2 ⟨n1, d1, rfl, hn1, hd1, hb2⟩
  have HN1 := Lib.hid hn1
  have HD1 := Lib.hid hd1
  have HB2 := Lib.hid hb2
  clear hn1 hd1 hb2
  go_wp2_with fail
  refine (times_any _ 1 r (0 : Int) _ (hv.out.later HB2.out) (by rw [len_one]; omega) (by omega) (by omega) (by omega) (by omega)).mono ?_
  rintro e' w3 ⟨n2, d2, rfl, hn2, hd2, hb3⟩
  have HN2 := Lib.hid hn2
  have HD2 := Lib.hid hd2
  have HB3 := Lib.hid hb3
  clear hn2 hd2 hb3
  go_wp2_with fail
  refine (cmp_any _ _ (1 * 2 ^ (0 : Int).toNat * 10 ^ x.toNat) (2 ^ (-(0 : Int)).toNat * 10 ^ (-x).toNat) (1 * 2 ^ r.toNat * 10 ^ (0 : Int).toNat) (2 ^ (-r).toNat * 10 ^ (-(0 : Int)).toNat) _ ⟨_, _, rfl, HN1.out.later HB3.out, HD1.out.later HB3.out⟩ ⟨_, _, rfl, HN2.out, HD2.out⟩ (by have := HL.out; omega) (by have := HL.out; omega)).mono ?_
  rintro e' w4 ⟨rfl, hb4⟩
  have HB4 := Lib.hid hb4
  have G1 := HG1.out
  clear hb4
  generalize cmpN (1 * 2 ^ (0 : Int).toNat * 10 ^ x.toNat * (2 ^ (-r).toNat * 10 ^ (-(0 : Int)).toNat)) (1 * 2 ^ r.toNat * 10 ^ (0 : Int).toNat * (2 ^ (-(0 : Int)).toNat * 10 ^ (-x).toNat)) = q1 at *
  clear HG1
  have HB24 := Lib.hid ((HB2.out.trans (HB3.out.mono HB2.out.size)).trans (HB4.out.mono (Nat.le_trans HB2.out.size HB3.out.size)))
  go_wp2_with fail
  refine (times_any _ 1 (0 : Int) x _ (hv.out.later HB24.out) (by rw [len_one]; omega) (by omega) (by omega) (by omega) (by omega)).mono ?_
  rintro e' w5 ⟨n3, d3, rfl, hn3, hd3, hb5⟩
  have HN3 := Lib.hid hn3
  have HD3 := Lib.hid hd3
  have HB5 := Lib.hid hb5
  clear hn3 hd3 hb5
  have HB25 := Lib.hid (HB24.out.trans (HB5.out.mono HB24.out.size))
  go_wp2_with fail
  refine (times_any _ 1 (r + 1) (0 : Int) _ (hv.out.later HB25.out) (by rw [len_one]; omega) (by omega) (by omega) (by omega) (by omega)).mono ?_
  rintro e' w6 ⟨n4, d4, rfl, hn4, hd4, hb6⟩
  have HN4 := Lib.hid hn4
  have HD4 := Lib.hid hd4
  have HB6 := Lib.hid hb6
  clear hn4 hd4 hb6
  go_wp2_with fail
  refine (cmp_any _ _ (1 * 2 ^ (0 : Int).toNat * 10 ^ x.toNat) (2 ^ (-(0 : Int)).toNat * 10 ^ (-x).toNat) (1 * 2 ^ (r + 1).toNat * 10 ^ (0 : Int).toNat) (2 ^ (-(r + 1)).toNat * 10 ^ (-(0 : Int)).toNat) _ ⟨_, _, rfl, HN3.out.later HB6.out, HD3.out.later HB6.out⟩ ⟨_, _, rfl, HN4.out, HD4.out⟩ (by have := HL.out; omega) (by have := HL.out; omega)).mono ?_
  rintro e' w7 ⟨rfl, hb7⟩
  have HB7 := Lib.hid hb7
  have G2 := HG2.out
  clear hb7
  generalize cmpN (1 * 2 ^ (0 : Int).toNat * 10 ^ x.toNat * (2 ^ (-(r + 1)).toNat * 10 ^ (-(0 : Int)).toNat)) (1 * 2 ^ (r + 1).toNat * 10 ^ (0 : Int).toNat * (2 ^ (-(0 : Int)).toNat * 10 ^ (-x).toNat)) = q2 at *
  clear HG2
  have HB26 := Lib.hid (HB25.out.trans (HB6.out.mono HB25.out.size))
  have HB27 := Lib.hid (HB26.out.trans (HB7.out.mono HB26.out.size))
  have HBF := Lib.hid (HB1.out.trans (HB27.out.mono HB1.out.size))
  go_wp2_with fail
  go_ret
  exact ⟨ret_true (by simp), HBF.out⟩

end Go.Proofs.Ytekicbnfabpaeaa
