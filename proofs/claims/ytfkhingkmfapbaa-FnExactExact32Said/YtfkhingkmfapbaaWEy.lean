/- The walk of FnExactExact32: the law returns true. Written by gen_ex.py. -/
import Derived.Test.YtfkhingkmfapbaaExC
import Derived.Test.YtfkhingkmfapbaaFBj
import Derived.Test.YtfkhingkmfapbaaSRnd
import Derived.Test.YtfkhingkmfapbaaRPl
namespace Go.Proofs.Ytfkhingkmfapbaa
open Go.RowKit

theorem tmod_401e (p : Int) : -401 < p.tmod 401 ∧ p.tmod 401 < 401 := by
  have h1 := Int.tmod_lt_of_pos p (show (0 : Int) < 401 by decide)
  have h2 := Int.lt_tmod_of_pos p (show (0 : Int) < 401 by decide)
  omega
theorem ten_ne0 (q : Int) : denT q ≠ 0 := by
  have : 0 < 10 ^ (-q).toNat := Nat.pow_pos (by omega)
  show 10 ^ (-q).toNat ≠ 0
  omega
theorem pow10_len0 {n : Nat} (h : n ≤ 500) : Num.len (10 ^ n) ≤ 1000 := by
  have h1 := Num.len_pow10 n
  omega

set_option maxHeartbeats 4000000 in
set_option maxRecDepth 100000 in
theorem walk_FnExactExact32 (a0 a1 : Int) (neg : Bool) (w0 : (Lit.int .u64 a0).wf = true) (w1 : (Lit.int .i16 a1).wf = true) (w : World) :
    Calls Try.prog 9 #[.int .u64 a0, .int .i16 a1, .bool neg] w fun e w' => e = .returned (.bool true) ∧ Below w.heap.size w w' := by
  have b0 := bounds_u64 w0
  have b1 := bounds_i16 w1
  clear w0 w1
  obtain ⟨M, rfl⟩ := Int.eq_ofNat_of_zero_le b0.1
  have hM : M < 18446744073709551616 := by omega
  obtain ⟨h0, h1⟩ := tmod_401e a1
  obtain ⟨x, ex⟩ : ∃ x, a1.tmod 401 = x := ⟨_, rfl⟩
  rw [ex] at h0 h1
  have hbr := bits32_run
  clear b0 b1
  go_enter Try.func9, Try.ntmps9
  go_wp2_with fail
  refine (ex32_out M x neg _ hM (by omega) (by omega)).mono ?_
  rintro e w1 ⟨hb1, b, ok, rfl, hy, hn⟩
  have HB1 := Lib.hid hb1
  clear hb1
  cases ok
  · have hn' := hn rfl
    clear hn hy
    by_cases hx : x = 0
    · have hM2 : (8388608 : Int) ≤ (M : Int) := by omega
      have hx2 : (x != 0) = false := by rw [hx]; rfl
      clear hx hn'
      go_wp2_with fail
      go_ret
      exact ⟨rfl, HB1.out⟩
    · have hx2 : (x != 0) = true := by simp [hx]
      clear hx hn'
      go_wp2_with fail
      go_ret
      exact ⟨rfl, HB1.out⟩
  · have HY := Lib.hid (hy rfl)
    clear hn hy
    go_wp2_with fail
    refine (natOf_any (M : Int) _ (by omega) (by omega)).mono ?_
    rintro r w2 ⟨v2, rfl, hv2, hb2⟩
    rw [Int.toNat_natCast] at hv2
    have HV2 := Lib.hid hv2
    have HB2 := Lib.hid (HB1.out.trans (hb2.mono HB1.out.size))
    clear hv2 hb2
    have HLM : Hid (Num.len M ≤ 2) := Num.len_le (by omega)
    go_wp2_with fail
    refine (times_ten _ M x _ HV2.out (by have := HLM.out; omega) (by omega) (by omega)).mono ?_
    rintro r w3 ⟨vn, vd, rfl, hn3, hd3, hb3⟩
    have HN3 := Lib.hid (show RatioIs w3 (.agg #[vn, vd]) (numT M x) (denT x) from ⟨vn, vd, rfl, hn3, hd3⟩)
    have HB3 := Lib.hid (HB2.out.trans (hb3.mono HB2.out.size))
    clear hn3 hd3 hb3
    have L3 : Hid (Num.len (numT M x) ≤ 3000) := by
      have h1 := Num.len_mul M (10 ^ x.toNat)
      have h2 := HLM.out
      have h3 := pow10_len0 (n := x.toNat) (by omega)
      show Num.len (M * 10 ^ x.toNat) ≤ 3000
      omega
    have L4 : Hid (Num.len (denT x) ≤ 3000) := by
      have h3 := pow10_len0 (n := (-x).toNat) (by omega)
      show Num.len (10 ^ (-x).toNat) ≤ 3000
      omega
    have L5 : Hid (denT x ≠ 0) := ten_ne0 _
    have HY2 : Hid (b = w32 neg (numT M x) (denT x)) := HY.out
    clear HY
    generalize numT M x = nn at *
    generalize denT x = dd at *
    go_wp2_with fail
    refine (single_any _).mono ?_
    rintro r w4 ⟨rfl, hb4⟩
    have HN4 := Lib.hid (HN3.out.later hb4)
    have HB4 := Lib.hid (HB3.out.trans (hb4.mono HB3.out.size))
    clear hb4
    go_wp2_with fail
    refine (bits_single nn dd neg _ _ HN4.out L5.out (by have := L3.out; omega) (by have := L4.out; omega)).mono ?_
    rintro r w5 ⟨rfl, hb5⟩
    have HB5 := Lib.hid (HB4.out.trans (hb5.mono HB4.out.size))
    have hz : b = sgnB neg 2147483648 (rungQ 23 (-149) 255 nn dd) := by rw [HY2.out, w32_sgn]; rfl
    have hb9 : b < 4294967296 := by rw [HY2.out]; exact word_lt32 _ _ _
    clear hb5 HY2
    rw [← hz]
    clear hz
    generalize rungQ 23 (-149) 255 nn dd = rr at *
    go_wp2_with fail
    go_ret
    exact ⟨by simp, HB5.out⟩
end Go.Proofs.Ytfkhingkmfapbaa
