/- The walk of FnExactDigitsE: the law returns true. -/
import Derived.Test.YtekicbnfabpaeaaSci
import Derived.Test.YtekicbnfabpaeaaFmtE
import Derived.Test.YtekicbnfabpaeaaFmtC
import Derived.Test.YtekicbnfabpaeaaWB10
namespace Go.Proofs.Ytekicbnfabpaeaa
open Go.RowKit

theorem expL_dec {x : Nat} (h : x < 1000) : expL x = (if x < 10 then [48] else []) ++ decL x := by
  unfold expL
  by_cases h1 : x < 10
  · rw [if_pos h1, if_pos h1, decL_small h1]; rfl
  · rw [if_neg h1, if_neg h1, decL_big h1]
    by_cases h2 : x < 100
    · rw [if_pos h2, decL_small (by omega)]; rfl
    · rw [if_neg h2, decL_big (by omega), decL_small (by omega), Nat.div_div_eq_div_mul]; rfl
theorem sci_eq (neg : Bool) (D : List Nat) (p c : Nat) (e : Int) (h0 : 0 < D.length) (hp : D.length ≤ p + 1) (he : e.natAbs < 1000) :
    sciL neg D p c e = sciS neg (D ++ List.replicate (p + 1 - D.length) 48) e c := by
  obtain ⟨a, R, rfl⟩ : ∃ a R, D = a :: R := by cases D with | nil => simp at h0 | cons a R => exact ⟨a, R, rfl⟩
  unfold sciL sciS fracL
  rw [expL_dec he]
  have e1 : (a :: R ++ List.replicate (p + 1 - (a :: R).length) 48).length = p + 1 := by simp at hp ⊢; omega
  rw [e1]
  by_cases h : 0 < p
  · have h' : 1 < p + 1 := by omega
    simp [nth, h]
  · have h' : ¬ 1 < p + 1 := by omega
    simp [nth, h]

set_option maxHeartbeats 1000000 in
theorem digitsE_out (neg sh : Bool) (D : List Nat) (dp : Int) (p c : Nat) (w : World) (hB : Bytes D) (h0 : 0 < D.length) (h1 : D.length ≤ 60) (hp : D.length ≤ p + 1) (hp2 : p ≤ 1000) (d1 : -1000 < dp) (d2 : dp < 1000) (hc : c = 101 ∨ c = 69) :
    Calls Try.prog 29 #[.bool neg, .string (bs D), .int .i64 dp, .int .i64 p, .int .u8 c, .bool sh] w (GivesText (sciL neg D p c (dp - 1)) w) := by
  obtain ⟨sv, w1, hcv, hrd, hb1⟩ := reads_bytes D hB (by omega) w
  have hsz := bs_size D
  have HRD := Lib.hid hrd
  have HB1 := Lib.hid hb1
  have HC := Lib.hid hc
  clear hb1 hrd hc
  go_enter Try.func29, Try.ntmps29
  go_wp2_with (go_at_call 47; go_in)
  have key : Calls Try.prog 62 #[.slice none 0 0, .bool neg, sv, .int .i64 dp, .int .i64 D.length, .int .i64 p, .int .u8 c, .bool sh] w1 fun e w' => ∃ v, e = .returned v ∧ BRow w' w1.heap.size v (sciL neg D p c (dp - 1)) ∧ Below w1.heap.size w1 w' := by
    rcases HC.out with rfl | rfl
    · exact fmtE_101 neg sh sv D dp p w1 HRD.out h0 h1 hp hp2 d1 d2
    · exact fmtE_69 neg sh sv D dp p w1 HRD.out h0 h1 hp hp2 d1 d2
  refine key.mono ?_
  rintro e w2 ⟨v, rfl, hr, hb2⟩
  have hcv2 := hr.text
  have HB2 := Lib.hid (HB1.out.trans (hb2.mono HB1.out.size))
  clear hr hb2 hcv
  go_wp2_with fail
  go_ret
  exact ⟨rfl, HB2.out⟩

theorem headL_len (l : List Nat) : (headL l).length ≤ l.length := by
  induction l with
  | nil => simp [headL]
  | cons a r ih => unfold headL; split <;> simp; omega
theorem headL_digs {l : List Nat} (h : Digs l) : Digs (headL l) := by
  induction l with
  | nil => simpa [headL] using h
  | cons a r ih =>
    unfold headL
    split
    · exact ih fun x hx => h x (by simp [hx])
    · exact h

theorem bs_empty (l : List Nat) : (bs l).toList.isEmpty = decide (l.length = 0) := by
  rw [bs_toList]; cases l <;> simp
theorem tmod_bounds (a : Int) (n : Nat) (h : 0 < n) : -(n : Int) < a.tmod n ∧ a.tmod n < n := by
  have h1 : (a.tmod n).natAbs < n := by rw [Int.natAbs_tmod]; exact Nat.mod_lt _ (by simpa using h)
  omega

set_option maxHeartbeats 2000000 in
theorem walk_FnExactDigitsE (s : ByteArray) (a1 a2 : Int) (neg sh cap : Bool) (w0 : s.size ≤ maxLen) (w1 : (Lit.int .i16 a1).wf = true) (w2 : (Lit.int .u8 a2).wf = true) (w : World) :
    Calls Try.prog 11 #[.string s, .int .i16 a1, .int .u8 a2, .bool neg, .bool sh, .bool cap] w fun e w' => e = .returned (.bool true) ∧ Below w.heap.size w w' := by
  obtain ⟨l, rfl, hB, hsz'⟩ := bs_of s
  have hsz := bs_size l
  have b1 := bounds_i16 w1
  have b2 := bounds_u8 w2
  have HBy := Lib.hid hB
  clear w0 w1 w2 hsz' hB
  obtain ⟨m, rfl⟩ := Int.eq_ofNat_of_zero_le b2.1
  by_cases hbig : 2147483647 < l.length
  · have hbig' : (2147483647 : Int) < (l.length : Int) := by omega
    go_enter Try.func11, Try.ntmps11
    go_wp2_with fail
    go_ret
    exact ⟨rfl, Below.refl _ _⟩
  · have hG := Lib.hid (headL_digs (onlyL_digs l 60))
    have hlen : (headL (onlyL l 60)).length ≤ 60 := by have := headL_len (onlyL l 60); rw [onlyL_len] at this; omega
    have HOB := Lib.hid (digs_bytes (onlyL_digs l 60))
    go_enter Try.func11, Try.ntmps11
    go_wp2_with fail
    refine (only_any l 60 _ HBy.out (by decide) (by omega)).mono ?_
    rintro e w3 ⟨rfl, hb3⟩
    have HB3 := Lib.hid hb3
    clear hb3
    go_wp2_with fail
    refine (head_any _ _ HOB.out).mono ?_
    rintro e w4 ⟨rfl, rfl⟩
    generalize headL (onlyL l 60) = D at *
    by_cases hD0 : D.length = 0
    · have hE : (bs D).toList.isEmpty = true := by rw [bs_empty, hD0]; rfl
      go_wp2_with fail
      go_ret
      exact ⟨rfl, HB3.out⟩
    · have hE : (bs D).toList.isEmpty = false := by rw [bs_empty]; simp; intro h; rw [h] at hD0; simp at hD0
      have hszD := bs_size D
      have hdp : -401 < a1.tmod 401 ∧ a1.tmod 401 < 401 := tmod_bounds a1 401 (by decide)
      obtain ⟨hd1, hd2⟩ := hdp
      have hDp : (1 : Int) ≤ (D.length : Int) := by omega
      have hm40 : m % 40 < 40 := Nat.mod_lt _ (by decide)
      have em : (m : Int) % 40 = ((m % 40 : Nat) : Int) := by omega
      generalize m % 40 = q at *
      clear b2
      obtain ⟨dp, edp⟩ : ∃ dp, a1.tmod 401 = dp := ⟨_, rfl⟩
      rw [edp] at hd1 hd2
      have HG := Lib.hid (digs_bytes hG.out)
      have HEM := Lib.hid em
      clear em
      obtain ⟨c, hc, hcap⟩ : ∃ c : Nat, (c = 101 ∨ c = 69) ∧ ((cap = false ∧ c = 101) ∨ (cap = true ∧ c = 69)) := by
        cases cap
        · exact ⟨101, .inl rfl, .inl ⟨rfl, rfl⟩⟩
        · exact ⟨69, .inr rfl, .inr ⟨rfl, rfl⟩⟩
      clear hc
      cases sh
      · have HP := Lib.hid (show (D.length : Int) - 1 + (q : Int) = ((D.length - 1 + q : Nat) : Int) by omega)
        have hzl : (bs (List.replicate q 48)).size = q := by rw [bs_size]; simp
        have HS := Lib.hid (sci_eq neg D (D.length - 1 + q) c (dp - 1) (by omega) (by omega) (by omega))
        rw [show D.length - 1 + q + 1 - D.length = q from by omega] at HS
        have hlw : (D ++ List.replicate q 48).length ≤ 100 := by simp; omega
        have hap := bs_append D (List.replicate q 48)
        rcases hcap with ⟨rfl, rfl⟩ | ⟨rfl, rfl⟩
        · go_wp2_with fail
          rw [HEM.out]
          refine (zeros_any _ _ (by omega)).mono ?_
          rintro e w5 ⟨rfl, hb5⟩
          rw [Int.toNat_natCast]
          have HB5 := Lib.hid (HB3.out.trans (hb5.mono HB3.out.size))
          clear hb5
          go_wp2_with fail
          rw [HP.out]
          refine (digitsE_out neg false D dp (D.length - 1 + q) 101 _ HG.out (by omega) hlen (by omega) (by omega) (by omega) (by omega) (.inl rfl)).mono ?_
          rintro e w6 ⟨rfl, hb6⟩
          have HB6 := Lib.hid (HB5.out.trans (hb6.mono HB5.out.size))
          clear hb6
          go_wp2_with fail
          refine (scientific_any neg (D ++ List.replicate q 48) (dp - 1) 101 _ (by simp; omega) (by omega) (by omega) (by omega)).mono ?_
          rintro e w7 ⟨rfl, hb7⟩
          have HB7 := Lib.hid (HB6.out.trans (hb7.mono HB6.out.size))
          clear hb7
          have ht := bs_eq HS.out
          go_wp2_with fail
          go_ret
          exact ⟨ret_true (by first | rfl | exact ht), HB7.out⟩
        · go_wp2_with fail
          rw [HEM.out]
          refine (zeros_any _ _ (by omega)).mono ?_
          rintro e w5 ⟨rfl, hb5⟩
          rw [Int.toNat_natCast]
          have HB5 := Lib.hid (HB3.out.trans (hb5.mono HB3.out.size))
          clear hb5
          go_wp2_with fail
          rw [HP.out]
          refine (digitsE_out neg false D dp (D.length - 1 + q) 69 _ HG.out (by omega) hlen (by omega) (by omega) (by omega) (by omega) (.inr rfl)).mono ?_
          rintro e w6 ⟨rfl, hb6⟩
          have HB6 := Lib.hid (HB5.out.trans (hb6.mono HB5.out.size))
          clear hb6
          go_wp2_with fail
          refine (scientific_any neg (D ++ List.replicate q 48) (dp - 1) 69 _ (by simp; omega) (by omega) (by omega) (by omega)).mono ?_
          rintro e w7 ⟨rfl, hb7⟩
          have HB7 := Lib.hid (HB6.out.trans (hb7.mono HB6.out.size))
          clear hb7
          have ht := bs_eq HS.out
          go_wp2_with fail
          go_ret
          exact ⟨ret_true (by first | rfl | exact ht), HB7.out⟩
      · have HP := Lib.hid (show (D.length : Int) - 1 = ((D.length - 1 : Nat) : Int) by omega)
        have HS := Lib.hid (sci_eq neg D (D.length - 1) c (dp - 1) (by omega) (by omega) (by omega))
        rw [show D.length - 1 + 1 - D.length = 0 from by omega, List.replicate_zero, List.append_nil] at HS
        rcases hcap with ⟨rfl, rfl⟩ | ⟨rfl, rfl⟩
        · go_wp2_with fail
          rw [HP.out]
          refine (digitsE_out neg true D dp (D.length - 1) 101 _ HG.out (by omega) hlen (by omega) (by omega) (by omega) (by omega) (.inl rfl)).mono ?_
          rintro e w6 ⟨rfl, hb6⟩
          have HB6 := Lib.hid (HB3.out.trans (hb6.mono HB3.out.size))
          clear hb6
          go_wp2_with fail
          refine (scientific_any neg D (dp - 1) 101 _ (by omega) (by omega) (by omega) (by omega)).mono ?_
          rintro e w7 ⟨rfl, hb7⟩
          have HB7 := Lib.hid (HB6.out.trans (hb7.mono HB6.out.size))
          clear hb7
          have ht := bs_eq HS.out
          go_wp2_with fail
          go_ret
          exact ⟨ret_true (by first | rfl | exact ht), HB7.out⟩
        · go_wp2_with fail
          rw [HP.out]
          refine (digitsE_out neg true D dp (D.length - 1) 69 _ HG.out (by omega) hlen (by omega) (by omega) (by omega) (by omega) (.inr rfl)).mono ?_
          rintro e w6 ⟨rfl, hb6⟩
          have HB6 := Lib.hid (HB3.out.trans (hb6.mono HB3.out.size))
          clear hb6
          go_wp2_with fail
          refine (scientific_any neg D (dp - 1) 69 _ (by omega) (by omega) (by omega) (by omega)).mono ?_
          rintro e w7 ⟨rfl, hb7⟩
          have HB7 := Lib.hid (HB6.out.trans (hb7.mono HB6.out.size))
          clear hb7
          have ht := bs_eq HS.out
          go_wp2_with fail
          go_ret
          exact ⟨ret_true (by first | rfl | exact ht), HB7.out⟩
end Go.Proofs.Ytekicbnfabpaeaa
