/- The walk of FnExactRoundDecimal: the law returns true. Written by gen_wrd.py. -/
import Derived.Test.YtfkhingkmfapbaaWRU
import Derived.Test.YtfkhingkmfapbaaRDec3
namespace Go.Proofs.Ytfkhingkmfapbaa
open Go.RowKit

theorem valD_cons_drop {l : List Nat} {k : Nat} (h : k < l.length) : valD (l.drop k) = (nth l k - 48) * 10 ^ (l.length - k - 1) + valD (l.drop (k + 1)) := by
  have e : l.drop k = [nth l k] ++ l.drop (k + 1) := by rw [List.drop_eq_getElem_cons h, nth_eq h]; rfl
  rw [e, valD_append]
  congr 2
  · simp [valD]
  · congr 1; simp; omega
theorem valD_last {l : List Nat} (hd : Digs l) (h : 0 < l.length) (hz : nth l (l.length - 1) ≠ 48) : 0 < valD l := by
  have e := snoc_of (m := l) h
  have := digs_nth hd (k := l.length - 1) (by omega)
  rw [e, valD_snoc]
  omega
theorem shU_inc {l : List Nat} {k : Nat} (hd : Digs l) (hn : Neat l) (hk : k < l.length) : shU (padL l) l.length k false = incR l k 0 := by
  have h1 := valD_cons_drop hk
  have h2 := valD_lt (digs_drop hd (k + 1))
  have hdk := digs_nth hd hk
  have hlen : (l.drop (k + 1)).length = l.length - k - 1 := by simp; omega
  rw [hlen] at h2
  have hp : 10 ^ (l.length - k) = 10 * 10 ^ (l.length - k - 1) := by rw [← Nat.pow_succ']; congr 1; omega
  have hP : 0 < 10 ^ (l.length - k - 1) := Nat.pow_pos (by omega)
  rw [incR_zero, hp]
  unfold shU
  rw [if_neg (by omega), nth_padL hk]
  by_cases h5 : nth l k = 53 ∧ k + 1 = l.length
  · rw [if_pos h5]
    obtain ⟨h5, h6⟩ := h5
    have e0 : l.length - k - 1 = 0 := by omega
    have er : l.drop (k + 1) = [] := List.drop_eq_nil_of_le (by omega)
    rw [h5, e0, er, valD_nil] at h1
    rw [e0, h1, Bool.false_or]
    have ek : (decide (0 < k) && decide (nth (padL l) (k - 1) % 2 = 1)) = (decide (0 < k) && decide (nth l (k - 1) % 2 = 1)) := by
      rw [nth_padL (by omega)]
    rw [ek]
    simp
  · rw [if_neg h5]
    by_cases h6 : 53 ≤ nth l k
    · have hbig : 10 * 10 ^ (l.length - k - 1) < valD (l.drop k) * 2 := by
        rw [h1]
        by_cases h7 : nth l k = 53
        · have hlast : 0 < valD (l.drop (k + 1)) := by
            have hk1 : k + 1 < l.length := by have : ¬ (k + 1 = l.length) := fun e => h5 ⟨h7, e⟩; omega
            refine valD_last (digs_drop hd _) (by omega) ?_
            have hz := (hn.resolve_left (fun e => by rw [e] at hk; simp at hk)).2
            have e : nth (l.drop (k + 1)) ((l.drop (k + 1)).length - 1) = nth l (l.length - 1) := by
              simp only [nth, List.getD_eq_getElem?_getD, List.getElem?_drop]
              congr 2
              simp; omega
            rw [e]; exact hz
          rw [h7]
          generalize 10 ^ (l.length - k - 1) = Q at *
          omega
        · have h8 : 6 * 10 ^ (l.length - k - 1) ≤ (nth l k - 48) * 10 ^ (l.length - k - 1) := Nat.mul_le_mul_right _ (by omega)
          omega
      rw [decide_eq_true hbig, decide_eq_true h6]; rfl
    · have hsm : valD (l.drop k) * 2 < 10 * 10 ^ (l.length - k - 1) := by
        rw [h1]
        have h8 : (nth l k - 48) * 10 ^ (l.length - k - 1) ≤ 4 * 10 ^ (l.length - k - 1) := Nat.mul_le_mul_right _ (by omega)
        omega
      rw [decide_eq_false (show ¬ 10 * 10 ^ (l.length - k - 1) < valD (l.drop k) * 2 by omega), decide_eq_false (show ¬ valD (l.drop k) * 2 = 10 * 10 ^ (l.length - k - 1) by omega), decide_eq_false h6]; rfl
theorem rr_all_eq {l : List Nat} {k : Nat} (p : Int) (hd : Digs l) (hn : Neat l) (hl : l.length ≤ 800) : numV ((rrD l k false).take (rrN l k false)) (rrP l k false p) * rnD l k p 0 = rnN l k p 0 * denV ((rrD l k false).take (rrN l k false)) (rrP l k false p) := by
  unfold rnN rnD
  by_cases h : l.length ≤ k
  · rw [if_pos h, if_pos h]
    have es : shU (padL l) l.length k false = false := by unfold shU; rw [if_pos h]
    have e0 : rrD l k false = padL l := by unfold rrD; rw [es]; rfl
    have e1 : rrN l k false = l.length := by unfold rrN; rw [es]; simp only [Bool.false_eq_true, if_false]; unfold dnN; rw [if_pos h]
    have e2 : rrP l k false p = p := by unfold rrP; rw [es]; simp only [Bool.false_eq_true, if_false]; unfold dnP; rw [if_pos h]
    rw [e0, e1, e2, padL_take]
  · rw [if_neg h, if_neg h, if_pos rfl]
    have hi := shU_inc hd hn (show k < l.length by omega)
    rcases Bool.eq_false_or_eq_true (incR l k 0) with hs | hs
    · rw [hs] at hi
      have e0 : rrD l k false = rupD l k := by unfold rrD; rw [hi]; rfl
      have e1 : rrN l k false = rupN l k := by unfold rrN; rw [hi]; rfl
      have e2 : rrP l k false p = rupP l k p := by unfold rrP; rw [hi]; rfl
      rw [e0, e1, e2]
      exact up_eq p 0 hs hd (by omega) hl
    · rw [hs] at hi
      have e0 : rrD l k false = padL l := by unfold rrD; rw [hi]; rfl
      have e1 : rrN l k false = dnN l k := by unfold rrN; rw [hi]; rfl
      have e2 : rrP l k false p = dnP l k p := by unfold rrP; rw [hi]; rfl
      rw [e0, e1, e2]
      exact down_eq p 0 hs (by omega) hl
theorem rr_say {l : List Nat} {k : Nat} {p : Int} (hd : Digs l) (hl : l.length ≤ 400) (p0 : -400 < p) (p1 : p < 400) : Digs ((rrD l k false).take (rrN l k false)) ∧ ((rrD l k false).take (rrN l k false)).length ≤ 401 ∧ -500 ≤ rrP l k false p ∧ rrP l k false p ≤ 500 := by
  unfold rrD rrN rrP
  split
  · exact up_say hd hl p0 p1
  · exact down_say hd hl p0 p1

set_option maxHeartbeats 4000000 in
set_option maxRecDepth 100000 in
theorem walk_FnExactRoundDecimal (s : ByteArray) (a1 : Int) (neg : Bool) (a3 : Int) (w0 : s.size ≤ maxLen) (w1 : (Lit.int .i16 a1).wf = true) (w3 : (Lit.int .u16 a3).wf = true) (w : World) :
    Calls Try.prog 5 #[.string s, .int .i16 a1, .bool neg, .int .u16 a3] w fun e w' => e = .returned (.bool true) ∧ Below w.heap.size w w' := by
  obtain ⟨l0, rfl, hB, hsz'⟩ := bs_of s
  have hsz := bs_size l0
  have b1 := bounds_i16 w1
  have b3 := bounds_u16 w3
  have HBy := Lib.hid hB
  clear w0 w1 w3 hsz' hB
  obtain ⟨k0, rfl⟩ := Int.eq_ofNat_of_zero_le b3.1
  by_cases hbig : 2147483647 < l0.length
  · have hbig' : (2147483647 : Int) < (l0.length : Int) := by omega
    go_enter Try.func5, Try.ntmps5
    go_wp2_with fail
    go_ret
    exact ⟨rfl, Below.refl _ _⟩
  · have hbig' : ¬ (2147483647 : Int) < (l0.length : Int) := by omega
    have HDg := Lib.hid (sdL_digs l0)
    have HLn := Lib.hid (sdL_len l0)
    have HNt := Lib.hid (sdL_neat l0)
    have HPb := Lib.hid (sdP_bounds l0 a1)
    have hk9 : k0 % 402 < 402 := Nat.mod_lt _ (by decide)
    have ek : (k0 : Int) % 402 = ((k0 % 402 : Nat) : Int) := by omega
    have EK := Lib.hid ek
    clear ek
    go_enter Try.func5, Try.ntmps5
    go_wp2_with fail
    refine (sdecimal_any l0 a1 neg _ HBy.out (by omega) (by omega) (by omega)).mono ?_
    rintro e w2 ⟨rfl, hb2⟩
    generalize sdL l0 = l at *
    generalize sdP l0 a1 = p at *
    have hl := HLn.out
    obtain ⟨p0, p1⟩ := HPb.out
    have HB2 := Lib.hid (hb2.alloc hb2.size (.cells #[.string (bs l), .int .i64 p, .bool neg, .bool false] 25))
    have HK2 := Lib.hid (Box.new w2 25 #[.string (bs l), .int .i64 p, .bool neg, .bool false])
    clear hb2
    go_wp2_with fail
    generalize w2.alloc (.cells #[.string (bs l), .int .i64 p, .bool neg, .bool false] 25) = W2 at *
    generalize w2.heap.size = g at *
    rw [EK.out]
    clear EK
    generalize k0 % 402 = k at *
    refine (rdRound_out l k p neg false _ HDg.out (bytes_digs HDg.out) (by omega) (by omega) (by omega) (by omega)).mono ?_
    rintro e w3 ⟨rfl, hb3⟩
    have E := Lib.hid (rr_all_eq (k := k) p HDg.out HNt.out (by omega))
    have D := Lib.hid (rr_say (k := k) HDg.out hl p0 p1)
    generalize (rrD l k false).take (rrN l k false) = L at *
    generalize rrP l k false p = P at *
    obtain ⟨hDL, hLL, hP0, hP1⟩ := D.out
    have HDL := Lib.hid hDL
    clear D hDL
    have hszL := bs_size L
    have hLL' : ¬ (401 : Int) < (L.length : Int) := by omega
    have hP0' : ¬ P < -500 := by omega
    have hP1' : ¬ (500 : Int) < P := by omega
    have hg3 : g < w3.heap.size := Nat.lt_of_lt_of_le HK2.out.lt hb3.size
    have HB3 := Lib.hid ((HB2.out.trans (hb3.mono HB2.out.size)).alloc (HB2.out.trans (hb3.mono HB2.out.size)).size (.cells #[.string (bs L), .int .i64 P, .bool neg, .bool false] 25))
    have HK3 := Lib.hid ((HK2.out.later hb3 HK2.out.lt).alloc (.cells #[.string (bs L), .int .i64 P, .bool neg, .bool false] 25))
    have HK4 := Lib.hid (Box.new w3 25 #[.string (bs L), .int .i64 P, .bool neg, .bool false])
    clear hb3
    go_upto_region 8 with fail
    generalize w3.alloc (.cells #[.string (bs L), .int .i64 P, .bool neg, .bool false] 25) = W at *
    generalize w3.heap.size = h at *
    have S : Hid (∀ w' : World, Below W.heap.size W w' → (w'.cell? ⟨h, 0, none⟩ = some (.string (bs L)) ∧ w'.cell? ⟨h, 1, none⟩ = some (.int .i64 P) ∧ w'.cell? ⟨h, 2, none⟩ = some (.bool neg) ∧ w'.cell? ⟨h, 3, none⟩ = some (.bool false)) ∧ w'.cell? ⟨g, 0, none⟩ = some (.string (bs l)) ∧ w'.cell? ⟨g, 1, none⟩ = some (.int .i64 p) ∧ w'.cell? ⟨g, 2, none⟩ = some (.bool neg) ∧ w'.cell? ⟨g, 3, none⟩ = some (.bool false)) := fun w' hb => by
      have k4 := HK4.out.later hb HK4.out.lt
      have k3 := HK3.out.later hb HK3.out.lt
      exact ⟨⟨by rw [k4.cell 0]; rfl, by rw [k4.cell 1]; rfl, by rw [k4.cell 2]; rfl, by rw [k4.cell 3]; rfl⟩, by rw [k3.cell 0]; rfl, by rw [k3.cell 1]; rfl, by rw [k3.cell 2]; rfl, by rw [k3.cell 3]; rfl⟩
    obtain ⟨⟨c0, c1, c2, c3⟩, d0, d1, d2, d3⟩ := S.out W (Below.refl _ _)
    have hE : (cmpN (numV L P * rnD l k p (0)) (rnN l k p (0) * denV L P) == 0) = true := by rw [cmpN_eq E.out]; rfl
    have L1 := Lib.hid (numV_len (P := P) HDL.out (by omega) (by omega) (by omega))
    have L2 := Lib.hid (denV_len (L := L) (P := P) (by omega) (by omega))
    have L3 := Lib.hid (rnN_len (k := k) (p := p) (way := 0) HDg.out (by omega) (by omega) (by omega) (by omega))
    have L4 := Lib.hid (rnD_len (l := l) (k := k) (p := p) (way := 0) (by omega) (by omega) (by omega) (by omega))
    go_region_held3 (fun w' => (w'.cell? ⟨h, 0, none⟩ = some (.string (bs L)) ∧ w'.cell? ⟨h, 1, none⟩ = some (.int .i64 P) ∧ w'.cell? ⟨h, 2, none⟩ = some (.bool neg) ∧ w'.cell? ⟨h, 3, none⟩ = some (.bool false)) ∧ w'.cell? ⟨g, 0, none⟩ = some (.string (bs l)) ∧ w'.cell? ⟨g, 1, none⟩ = some (.int .i64 p) ∧ w'.cell? ⟨g, 2, none⟩ = some (.bool neg) ∧ w'.cell? ⟨g, 3, none⟩ = some (.bool false))
      (first | exact S.out _ hb6 | exact S.out _ hb5 | exact S.out _ hb4 | exact ⟨⟨c0, c1, c2, c3⟩, d0, d1, d2, d3⟩)
      (first
        | (go_at_call 13; refine (value_any L P neg false _ HDL.out (by omega) (by omega) (by omega)).mono ?_; rintro e' w4 ⟨vn4, vd4, rfl, hn4, hd4, hb4'⟩; have hb4 := undrew hb4')
        | (go_at_call 15; refine (rounded_all l k p (0) neg false _ HDg.out (by omega) (by omega) (by omega) (by omega) (by decide)).mono ?_; rintro e' w5 ⟨vn5, vd5, rfl, hn5, hd5, hb5'⟩; have hb5 := hb4.trans (hb5'.mono hb4.size))
        | (go_at_call 14; refine (cmp_any _ _ (numV L P) (denV L P) (rnN l k p (0)) (rnD l k p (0)) _ ⟨_, _, rfl, hn4.later hb5', hd4.later hb5'⟩ ⟨_, _, rfl, hn5, hd5⟩ (by have h1 := L1.out; have h2 := L4.out; omega) (by have h1 := L2.out; have h2 := L3.out; omega)).mono ?_; rintro e' w6 ⟨rfl, hb6'⟩; have hb6 := hb5.trans (hb6'.mono hb5.size)))
    all_goals
      have R := Lib.hid (HB3.out.trans (hb6.mono HB3.out.size))
      clear hn4 hd4 hb4 hb4' hn5 hd5 hb5 hb5' hb6 hb6' c0 c1 c2 c3 d0 d1 d2 d3
      go_wp2_with fail
      go_ret
      exact ⟨rfl, R.out⟩
end Go.Proofs.Ytfkhingkmfapbaa
