/- The walk of FnShiftBack: the law returns true. Written by gen_wsb.py. -/
import Derived.Test.YtfndpecffhempaaDoorWShf
namespace Go.Proofs.YtfndpecffhempaaDoor
open Go.RowKit

set_option maxHeartbeats 4000000 in
set_option maxRecDepth 100000 in
theorem walk_FnShiftBack (s : ByteArray) (a1 : Int) (neg : Bool) (a3 : Int) (w0 : s.size ≤ maxLen) (w1 : (Lit.int .i16 a1).wf = true) (w3 : (Lit.int .u8 a3).wf = true) (w : World) (hT : Cheat w w.heap.size) :
    Calls Tryd.prog 4 #[.string s, .int .i16 a1, .bool neg, .int .u8 a3] w fun e w' => e = .returned (.bool true) ∧ Below w.heap.size w w' := by
  obtain ⟨l0, rfl, hB, hsz'⟩ := bs_of s
  have hsz := bs_size l0
  have b1 := bounds_i16 w1
  have b3 := bounds_u8 w3
  clear w0 w1 w3
  obtain ⟨k0, rfl⟩ := Int.eq_ofNat_of_zero_le b3.1
  have HBy := Lib.hid hB
  have HC := Lib.hid hT
  by_cases hbig : 2147483647 < l0.length
  · have hbig' : (2147483647 : Int) < (l0.length : Int) := by omega
    clear hT hB hsz'
    go_enter Tryd.func4, Tryd.ntmps4
    go_wp2_with fail
    go_ret
    exact ⟨rfl, Below.refl _ _⟩
  · have hbig' : ¬ (2147483647 : Int) < (l0.length : Int) := by omega
    have HDg := Lib.hid (sdL_digs l0)
    have HLn := Lib.hid (sdL_len l0)
    have HTd := Lib.hid (sd_tidy l0 a1)
    have HPb := Lib.hid (sdP_bounds l0 a1)
    clear hT hB hsz'
    have hk9 : k0 % 128 < 128 := Nat.mod_lt _ (by decide)
    have ek : (k0 : Int) % 128 = ((k0 % 128 : Nat) : Int) := by omega
    have EK := Lib.hid ek
    clear ek
    go_enter Tryd.func4, Tryd.ntmps4
    go_wp2_with fail
    refine (sdecimal_any l0 a1 neg _ HBy.out (by omega) (by omega) (by omega)).mono ?_
    rintro e w2 ⟨rfl, hb2⟩
    generalize sdL l0 = l at *
    generalize sdP l0 a1 = p at *
    have hl := HLn.out
    obtain ⟨p0, p1⟩ := HPb.out
    have HB2 := Lib.hid (hb2.alloc hb2.size (.cells #[.string (bs l), .int .i64 p, .bool neg, .bool false] 25))
    have HK2 := Lib.hid (Box.new w2 25 #[.string (bs l), .int .i64 p, .bool neg, .bool false])
    clear hb2
    go_wp2_with fail
    generalize w2.alloc (.cells #[.string (bs l), .int .i64 p, .bool neg, .bool false] 25) = W2 at *
    generalize w2.heap.size = g at *
    rw [EK.out]
    clear EK
    generalize k0 % 128 = k at *
    refine (shift_out l (k : Int) p neg false _ w.heap.size HTd.out.lead (digs_bytes HDg.out) (by omega) (HC.out.later HB2.out (Nat.le_refl _)) (by omega) (by omega) (by omega) (by omega)).mono ?_
    rintro e w3 ⟨L1, P1, tr1, hq1, rfl, hb3⟩
    have HQ1 := Lib.hid hq1
    have hx1 := shK_exact hq1 HTd.out (by omega) (by omega) (by omega) (by omega) (by omega)
    obtain ⟨rfl, hL1, hP0, hP1, hT1, _, _⟩ := hx1
    have HT1 := Lib.hid hT1
    have HB3 := Lib.hid (HB2.out.trans (hb3.mono HB2.out.size))
    have HK3 := Lib.hid (HK2.out.later hb3 HK2.out.lt)
    clear hq1 hT1 hb3
    go_wp2_with fail
    refine (shift_out L1 (-(k : Int)) P1 neg false _ w.heap.size HT1.out.lead (digs_bytes HT1.out.digs) (by omega) (HC.out.later HB3.out (Nat.le_refl _)) (by omega) (by omega) (by omega) (by omega)).mono ?_
    rintro e w4 ⟨L2, P2, tr2, hq2, rfl, hb4⟩
    obtain ⟨rfl, rfl⟩ := shK_back HQ1.out hq2 HTd.out (by omega) (by omega) (by omega) (by omega) (by omega)
    have HK4 := Lib.hid ((HK3.out.later hb4 HK3.out.lt).alloc (.cells #[.string (bs L2), .int .i64 P2, .bool neg, .bool tr2] 25))
    have HK5 := Lib.hid (Box.new w4 25 #[.string (bs L2), .int .i64 P2, .bool neg, .bool tr2])
    have hb5 := HB3.out.trans (hb4.mono HB3.out.size)
    have HB5 := Lib.hid (hb5.alloc hb5.size (.cells #[.string (bs L2), .int .i64 P2, .bool neg, .bool tr2] 25))
    clear hq2 hb4 hb5
    go_upto_region 6 with fail
    generalize w4.alloc (.cells #[.string (bs L2), .int .i64 P2, .bool neg, .bool tr2] 25) = W at *
    generalize w4.heap.size = h at *
    have c0 : W.cell? ⟨g, 0, none⟩ = some (.string (bs L2)) := by rw [HK4.out.cell 0]; rfl
    have c1 : W.cell? ⟨g, 1, none⟩ = some (.int .i64 P2) := by rw [HK4.out.cell 1]; rfl
    have c2 : W.cell? ⟨g, 2, none⟩ = some (.bool neg) := by rw [HK4.out.cell 2]; rfl
    have d0 : W.cell? ⟨h, 0, none⟩ = some (.string (bs L2)) := by rw [HK5.out.cell 0]; rfl
    have d1 : W.cell? ⟨h, 1, none⟩ = some (.int .i64 P2) := by rw [HK5.out.cell 1]; rfl
    have d2 : W.cell? ⟨h, 2, none⟩ = some (.bool neg) := by rw [HK5.out.cell 2]; rfl
    have hE : ((bs L2).toList == (bs L2).toList) = true := by simp
    have hP : (P2 == P2) = true := by simp
    have hN : (neg == neg) = true := by simp
    go_wp2_with fail
    go_ret
    exact ⟨by simp, HB5.out⟩
end Go.Proofs.YtfndpecffhempaaDoor
