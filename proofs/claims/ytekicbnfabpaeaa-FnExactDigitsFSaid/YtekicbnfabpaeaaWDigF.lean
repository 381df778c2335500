/- The walk of FnExactDigitsF: the law returns true. -/
import Derived.Test.YtekicbnfabpaeaaPlain
import Derived.Test.YtekicbnfabpaeaaWDigE
namespace Go.Proofs.Ytekicbnfabpaeaa
open Go.RowKit

set_option maxHeartbeats 1000000 in
theorem digitsF_out (neg sh : Bool) (D : List Nat) (dp : Int) (p : Nat) (w : World) (hB : Bytes D) (h0 : 0 < D.length) (h1 : D.length ≤ 60) (hp : (D.length : Int) - dp ≤ p) (hp2 : p ≤ 1000) (d1 : -1000 < dp) (d2 : dp < 1000) :
    Calls Try.prog 29 #[.bool neg, .string (bs D), .int .i64 dp, .int .i64 p, .int .u8 102, .bool sh] w (GivesText (plainL neg D dp p) w) := by
  obtain ⟨sv, w1, hcv, hrd, hb1⟩ := reads_bytes D hB (by omega) w
  have hsz := bs_size D
  have HRD := Lib.hid hrd
  have HB1 := Lib.hid hb1
  clear hb1 hrd
  go_enter Try.func29, Try.ntmps29
  go_wp2_with (go_at_call 47; go_in)
  refine (fmtF_any neg sh sv D dp p w1 HRD.out h0 h1 hp hp2 d1 d2).mono ?_
  rintro e w2 ⟨v, rfl, hr, hb2⟩
  have hcv2 := hr.text
  have HB2 := Lib.hid (HB1.out.trans (hb2.mono HB1.out.size))
  clear hr hb2 hcv
  go_wp2_with fail
  go_ret
  exact ⟨rfl, HB2.out⟩

set_option maxHeartbeats 2000000 in
theorem walk_FnExactDigitsF (s : ByteArray) (a1 a2 : Int) (neg sh : Bool) (w0 : s.size ≤ maxLen) (w1 : (Lit.int .i16 a1).wf = true) (w2 : (Lit.int .u8 a2).wf = true) (w : World) :
    Calls Try.prog 12 #[.string s, .int .i16 a1, .int .u8 a2, .bool neg, .bool sh] w fun e w' => e = .returned (.bool true) ∧ Below w.heap.size w w' := by
  obtain ⟨l, rfl, hB, hsz'⟩ := bs_of s
  have hsz := bs_size l
  have b1 := bounds_i16 w1
  have b2 := bounds_u8 w2
  have HBy := Lib.hid hB
  clear w0 w1 w2 hsz' hB
  obtain ⟨m, rfl⟩ := Int.eq_ofNat_of_zero_le b2.1
  by_cases hbig : 2147483647 < l.length
  · have hbig' : (2147483647 : Int) < (l.length : Int) := by omega
    go_enter Try.func12, Try.ntmps12
    go_wp2_with fail
    go_ret
    exact ⟨rfl, Below.refl _ _⟩
  · have hG := Lib.hid (headL_digs (onlyL_digs l 60))
    have hlen : (headL (onlyL l 60)).length ≤ 60 := by have := headL_len (onlyL l 60); rw [onlyL_len] at this; omega
    have HOB := Lib.hid (digs_bytes (onlyL_digs l 60))
    go_enter Try.func12, Try.ntmps12
    go_wp2_with fail
    refine (only_any l 60 _ HBy.out (by decide) (by omega)).mono ?_
    rintro e w3 ⟨rfl, hb3⟩
    have HB3 := Lib.hid hb3
    clear hb3
    go_wp2_with fail
    refine (head_any _ _ HOB.out).mono ?_
    rintro e w4 ⟨rfl, rfl⟩
    generalize headL (onlyL l 60) = D at *
    by_cases hD0 : D.length = 0
    · have hE : (bs D).toList.isEmpty = true := by rw [bs_empty, hD0]; rfl
      go_wp2_with fail
      go_ret
      exact ⟨rfl, HB3.out⟩
    · have hE : (bs D).toList.isEmpty = false := by rw [bs_empty]; simp; intro h; rw [h] at hD0; simp at hD0
      have hszD := bs_size D
      have hdp : -401 < a1.tmod 401 ∧ a1.tmod 401 < 401 := tmod_bounds a1 401 (by decide)
      obtain ⟨hd1, hd2⟩ := hdp
      have hDp : (1 : Int) ≤ (D.length : Int) := by omega
      have hm40 : m % 40 < 40 := Nat.mod_lt _ (by decide)
      have em : (m : Int) % 40 = ((m % 40 : Nat) : Int) := by omega
      generalize m % 40 = q at *
      clear b2
      obtain ⟨dp, edp⟩ : ∃ dp, a1.tmod 401 = dp := ⟨_, rfl⟩
      rw [edp] at hd1 hd2
      have HG := Lib.hid (digs_bytes hG.out)
      have HEM := Lib.hid em
      clear em
      obtain ⟨p0, hp0, hp1, hp2⟩ : ∃ p0 : Nat, max ((D.length : Int) - dp) 0 = p0 ∧ (D.length : Int) - dp ≤ p0 ∧ p0 ≤ 500 := ⟨(max ((D.length : Int) - dp) 0).toNat, by omega, by omega, by omega⟩
      have HP0 := Lib.hid hp0
      clear hp0
      go_upto_region 6 with fail
      go_cut [13] (fun s wx => s = .int .i64 p0 ∧ wx = w3)
      case first =>
        go_wp2_with fail
        all_goals (go_meet; exact ⟨congrArg _ (by have := HP0.out; omega), rfl⟩)
      case rest =>
        obtain ⟨rfl, rfl⟩ := hcut
        have fin : ∀ (p : Nat), (D.length : Int) - dp ≤ p → p ≤ 1000 → ((bs (plainL neg D dp p)).toList == (bs (plainL neg D dp p)).toList) = true := fun p _ _ => bs_eq rfl
        clear fin
        cases sh
        · have HP := Lib.hid (show (p0 : Int) + (q : Int) = ((p0 + q : Nat) : Int) by omega)
          go_wp2_with fail
          rw [HEM.out, HP.out]
          refine (digitsF_out neg false D dp (p0 + q) _ HG.out (by omega) hlen (by omega) (by omega) (by omega) (by omega)).mono ?_
          rintro e w6 ⟨rfl, hb6⟩
          have HB6 := Lib.hid (HB3.out.trans (hb6.mono HB3.out.size))
          clear hb6
          go_wp2_with fail
          refine (plain_any neg D dp (p0 + q) _ hlen (by omega) (by omega) (by omega)).mono ?_
          rintro e w7 ⟨rfl, hb7⟩
          have HB7 := Lib.hid (HB6.out.trans (hb7.mono HB6.out.size))
          clear hb7
          go_wp2_with fail
          go_ret
          exact ⟨ret_true (by first | rfl | exact bs_eq rfl), HB7.out⟩
        · go_wp2_with fail
          refine (digitsF_out neg true D dp p0 _ HG.out (by omega) hlen (by omega) (by omega) (by omega) (by omega)).mono ?_
          rintro e w6 ⟨rfl, hb6⟩
          have HB6 := Lib.hid (HB3.out.trans (hb6.mono HB3.out.size))
          clear hb6
          go_wp2_with fail
          refine (plain_any neg D dp p0 _ hlen (by omega) (by omega) (by omega)).mono ?_
          rintro e w7 ⟨rfl, hb7⟩
          have HB7 := Lib.hid (HB6.out.trans (hb7.mono HB6.out.size))
          clear hb7
          go_wp2_with fail
          go_ret
          exact ⟨ret_true (by first | rfl | exact bs_eq rfl), HB7.out⟩
end Go.Proofs.Ytekicbnfabpaeaa
