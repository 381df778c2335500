/- The walk of FnExactRoundDecimalDown: the law returns true. Written by gen_wrd.py. -/
import Derived.Test.YtfkhingkmfapbaaRPl
namespace Go.Proofs.Ytfkhingkmfapbaa
open Go.RowKit

/-- the ratio of Rounded -/
def rnN (l : List Nat) (k : Nat) (p way : Int) : Nat := if l.length ≤ k then numV l p else numT (hdR l k way) (p - k)
def rnD (l : List Nat) (k : Nat) (p way : Int) : Nat := if l.length ≤ k then denV l p else if way = way then denT (p - k) else 0
theorem rounded_all (l : List Nat) (k : Nat) (p way : Int) (neg tr : Bool) (w : World) (hd : Digs l) (hl : l.length ≤ 1600) (p0 : -3000 ≤ p) (p1 : p ≤ 3000) (hk : k ≤ 100000) (hway : way = -1 ∨ way = 0 ∨ way = 1) :
    Calls Try.prog 15 #[.agg #[.string (bs l), .int .i64 p, .bool neg, .bool tr], .int .i64 k, .int .i64 way] w (GivesRatio (rnN l k p way) (rnD l k p way) w) := by
  unfold rnN rnD
  by_cases h : l.length ≤ k
  · rw [if_pos h, if_pos h]; exact rounded_same l k p way neg tr w hd hl p0 p1 h hk
  · rw [if_neg h, if_neg h, if_pos rfl]; exact rounded_cut l k p way neg tr w hd hl p0 p1 (by omega) hway
theorem pow10_len {n : Nat} (h : n ≤ 5000) : Num.len (10 ^ n) ≤ 1000 := by have := Num.len_pow10 n; omega
theorem numV_len {L : List Nat} {P : Int} (hd : Digs L) (hl : L.length ≤ 1600) (p0 : -3000 ≤ P) (p1 : P ≤ 3000) : Num.len (numV L P) ≤ 3000 := by
  unfold numV
  have h1 := Num.len_mul (valD L) (10 ^ (P - L.length).toNat)
  have h2 := valD_len hd hl
  have h3 := pow10_len (n := (P - L.length).toNat) (by omega)
  omega
theorem denV_len {L : List Nat} {P : Int} (hl : L.length ≤ 1600) (p0 : -3000 ≤ P) : Num.len (denV L P) ≤ 3000 := by
  unfold denV
  have h3 := pow10_len (n := ((L.length : Int) - P).toNat) (by omega)
  omega
theorem hdR_len {l : List Nat} {k : Nat} {way : Int} (hd : Digs l) (hl : l.length ≤ 1600) : Num.len (hdR l k way) ≤ 400 := by
  have h1 := valD_len (digs_take hd k) (by simp; omega)
  have h2 : hdR l k way ≤ valD (l.take k) + 1 := by unfold hdR; split <;> omega
  have h3 : valD (l.take k) + 1 < 4294967296 ^ 211 := by
    have := Num.lt_pow_len (valD (l.take k))
    have h4 : 4294967296 ^ Num.len (valD (l.take k)) ≤ 4294967296 ^ 210 := Nat.pow_le_pow_right (by omega) h1
    have h5 : (4294967296 : Nat) ^ 210 + 1 < 4294967296 ^ 211 := by rw [Nat.pow_succ]; have : 0 < (4294967296 : Nat) ^ 210 := Nat.pow_pos (by omega); generalize (4294967296 : Nat) ^ 210 = Q at *; omega
    generalize (4294967296 : Nat) ^ 210 = Q at *
    omega
  have := Num.len_le (Nat.lt_of_le_of_lt h2 h3)
  omega
theorem rnN_len {l : List Nat} {k : Nat} {p way : Int} (hd : Digs l) (hl : l.length ≤ 1600) (hk : k ≤ 1000) (p0 : -3000 ≤ p) (p1 : p ≤ 3000) : Num.len (rnN l k p way) ≤ 3000 := by
  unfold rnN
  split
  · exact numV_len hd hl p0 p1
  · unfold numT
    have h1 := Num.len_mul (hdR l k way) (10 ^ (p - k).toNat)
    have h2 := hdR_len (k := k) (way := way) hd hl
    have h3 := pow10_len (n := (p - k).toNat) (by omega)
    omega
theorem rnD_len {l : List Nat} {k : Nat} {p way : Int} (hl : l.length ≤ 1600) (hk : k ≤ 1000) (p0 : -3000 ≤ p) (p1 : p ≤ 3000) : Num.len (rnD l k p way) ≤ 3000 := by
  unfold rnD
  split
  · exact denV_len hl p0
  · rw [if_pos rfl]
    unfold denT
    have h3 := pow10_len (n := (-(p - k)).toNat) (by omega)
    omega
theorem down_all_eq {l : List Nat} {k : Nat} (p : Int) (hl : l.length ≤ 800) : numV ((padL l).take (dnN l k)) (dnP l k p) * rnD l k p (-1) = rnN l k p (-1) * denV ((padL l).take (dnN l k)) (dnP l k p) := by
  unfold rnN rnD
  by_cases h : l.length ≤ k
  · rw [if_pos h, if_pos h]
    have e1 : dnN l k = l.length := by unfold dnN; rw [if_pos h]
    have e2 : dnP l k p = p := by unfold dnP; rw [if_pos h]
    rw [e1, e2, padL_take]
  · rw [if_neg h, if_neg h, if_pos rfl]; exact down_eq p (-1) (incR_down l k) (by omega) hl
theorem down_say {l : List Nat} {k : Nat} {p : Int} (hd : Digs l) (hl : l.length ≤ 400) (p0 : -400 < p) (p1 : p < 400) : Digs ((padL l).take (dnN l k)) ∧ ((padL l).take (dnN l k)).length ≤ 401 ∧ -500 ≤ dnP l k p ∧ dnP l k p ≤ 500 := by
  have hn : dnN l k ≤ l.length := by
    unfold dnN
    split
    · exact Nat.le_refl _
    · have := cut0_le (padL l) k; omega
  rw [take_padL hn]
  refine ⟨digs_take hd _, by simp; omega, ?_⟩
  unfold dnP dpz
  split
  · omega
  · split <;> omega
theorem up_all_eq {l : List Nat} {k : Nat} (p : Int) (hd : Digs l) (hl : l.length ≤ 800) : numV ((rupD l k).take (rupN l k)) (rupP l k p) * rnD l k p 1 = rnN l k p 1 * denV ((rupD l k).take (rupN l k)) (rupP l k p) := by
  unfold rnN rnD
  by_cases h : l.length ≤ k
  · rw [if_pos h, if_pos h]
    have e1 : rupN l k = l.length := by unfold rupN; rw [if_pos h]
    have e2 : rupP l k p = p := by unfold rupP; rw [if_pos h]
    have e3 : rupD l k = padL l := by unfold rupD; rw [if_pos h]
    rw [e1, e2, e3, padL_take]
  · rw [if_neg h, if_neg h, if_pos rfl]; exact up_eq p 1 (incR_up l k) hd (by omega) hl
theorem up_say {l : List Nat} {k : Nat} {p : Int} (hd : Digs l) (hl : l.length ≤ 400) (p0 : -400 < p) (p1 : p < 400) : Digs ((rupD l k).take (rupN l k)) ∧ ((rupD l k).take (rupN l k)).length ≤ 401 ∧ -500 ≤ rupP l k p ∧ rupP l k p ≤ 500 := by
  by_cases h : l.length ≤ k
  · have e1 : rupN l k = l.length := by unfold rupN; rw [if_pos h]
    have e2 : rupP l k p = p := by unfold rupP; rw [if_pos h]
    have e3 : rupD l k = padL l := by unfold rupD; rw [if_pos h]
    rw [e1, e2, e3, padL_take]
    exact ⟨hd, by omega, by omega, by omega⟩
  · obtain ⟨h1, h2, _⟩ := up_digits hd (show k < l.length by omega) (by omega)
    refine ⟨h1, ?_, ?_⟩
    · rw [h2]
      have hj := up9_le (padL l) k
      unfold rupN
      rw [if_neg h]
      unfold upN
      split <;> omega
    · unfold rupP
      rw [if_neg h]
      unfold upP
      split <;> omega

set_option maxHeartbeats 4000000 in
set_option maxRecDepth 100000 in
theorem walk_FnExactRoundDecimalDown (s : ByteArray) (a1 : Int) (neg : Bool) (a3 : Int) (w0 : s.size ≤ maxLen) (w1 : (Lit.int .i16 a1).wf = true) (w3 : (Lit.int .u16 a3).wf = true) (w : World) :
    Calls Try.prog 3 #[.string s, .int .i16 a1, .bool neg, .int .u16 a3] w fun e w' => e = .returned (.bool true) ∧ Below w.heap.size w w' := by
  obtain ⟨l0, rfl, hB, hsz'⟩ := bs_of s
  have hsz := bs_size l0
  have b1 := bounds_i16 w1
  have b3 := bounds_u16 w3
  have HBy := Lib.hid hB
  clear w0 w1 w3 hsz' hB
  obtain ⟨k0, rfl⟩ := Int.eq_ofNat_of_zero_le b3.1
  by_cases hbig : 2147483647 < l0.length
  · have hbig' : (2147483647 : Int) < (l0.length : Int) := by omega
    go_enter Try.func3, Try.ntmps3
    go_wp2_with fail
    go_ret
    exact ⟨rfl, Below.refl _ _⟩
  · have hbig' : ¬ (2147483647 : Int) < (l0.length : Int) := by omega
    have HDg := Lib.hid (sdL_digs l0)
    have HLn := Lib.hid (sdL_len l0)
    have HNt := Lib.hid (sdL_neat l0)
    have HPb := Lib.hid (sdP_bounds l0 a1)
    have hk9 : k0 % 402 < 402 := Nat.mod_lt _ (by decide)
    have ek : (k0 : Int) % 402 = ((k0 % 402 : Nat) : Int) := by omega
    have EK := Lib.hid ek
    clear ek
    go_enter Try.func3, Try.ntmps3
    go_wp2_with fail
    refine (sdecimal_any l0 a1 neg _ HBy.out (by omega) (by omega) (by omega)).mono ?_
    rintro e w2 ⟨rfl, hb2⟩
    generalize sdL l0 = l at *
    generalize sdP l0 a1 = p at *
    have hl := HLn.out
    obtain ⟨p0, p1⟩ := HPb.out
    have HB2 := Lib.hid (hb2.alloc hb2.size (.cells #[.string (bs l), .int .i64 p, .bool neg, .bool false] 25))
    have HK2 := Lib.hid (Box.new w2 25 #[.string (bs l), .int .i64 p, .bool neg, .bool false])
    clear hb2
    go_wp2_with fail
    generalize w2.alloc (.cells #[.string (bs l), .int .i64 p, .bool neg, .bool false] 25) = W2 at *
    generalize w2.heap.size = g at *
    rw [EK.out]
    clear EK
    generalize k0 % 402 = k at *
    refine (rdDown_out l k p neg false _ (bytes_digs HDg.out) (by omega) (by omega) (by omega) (by omega)).mono ?_
    rintro e w3 ⟨rfl, hb3⟩
    have E := Lib.hid (down_all_eq (k := k) p (l := l) (by omega))
    have D := Lib.hid (down_say (k := k) HDg.out hl p0 p1)
    generalize (padL l).take (dnN l k) = L at *
    generalize dnP l k p = P at *
    obtain ⟨hDL, hLL, hP0, hP1⟩ := D.out
    have HDL := Lib.hid hDL
    clear D hDL
    have hszL := bs_size L
    have hLL' : ¬ (401 : Int) < (L.length : Int) := by omega
    have hP0' : ¬ P < -500 := by omega
    have hP1' : ¬ (500 : Int) < P := by omega
    have hg3 : g < w3.heap.size := Nat.lt_of_lt_of_le HK2.out.lt hb3.size
    have HB3 := Lib.hid ((HB2.out.trans (hb3.mono HB2.out.size)).alloc (HB2.out.trans (hb3.mono HB2.out.size)).size (.cells #[.string (bs L), .int .i64 P, .bool neg, .bool false] 25))
    have HK3 := Lib.hid ((HK2.out.later hb3 HK2.out.lt).alloc (.cells #[.string (bs L), .int .i64 P, .bool neg, .bool false] 25))
    have HK4 := Lib.hid (Box.new w3 25 #[.string (bs L), .int .i64 P, .bool neg, .bool false])
    clear hb3
    go_upto_region 8 with fail
    generalize w3.alloc (.cells #[.string (bs L), .int .i64 P, .bool neg, .bool false] 25) = W at *
    generalize w3.heap.size = h at *
    have S : Hid (∀ w' : World, Below W.heap.size W w' → (w'.cell? ⟨h, 0, none⟩ = some (.string (bs L)) ∧ w'.cell? ⟨h, 1, none⟩ = some (.int .i64 P) ∧ w'.cell? ⟨h, 2, none⟩ = some (.bool neg) ∧ w'.cell? ⟨h, 3, none⟩ = some (.bool false)) ∧ w'.cell? ⟨g, 0, none⟩ = some (.string (bs l)) ∧ w'.cell? ⟨g, 1, none⟩ = some (.int .i64 p) ∧ w'.cell? ⟨g, 2, none⟩ = some (.bool neg) ∧ w'.cell? ⟨g, 3, none⟩ = some (.bool false)) := fun w' hb => by
      have k4 := HK4.out.later hb HK4.out.lt
      have k3 := HK3.out.later hb HK3.out.lt
      exact ⟨⟨by rw [k4.cell 0]; rfl, by rw [k4.cell 1]; rfl, by rw [k4.cell 2]; rfl, by rw [k4.cell 3]; rfl⟩, by rw [k3.cell 0]; rfl, by rw [k3.cell 1]; rfl, by rw [k3.cell 2]; rfl, by rw [k3.cell 3]; rfl⟩
    obtain ⟨⟨c0, c1, c2, c3⟩, d0, d1, d2, d3⟩ := S.out W (Below.refl _ _)
    have hE : (cmpN (numV L P * rnD l k p (-1)) (rnN l k p (-1) * denV L P) == 0) = true := by rw [cmpN_eq E.out]; rfl
    have L1 := Lib.hid (numV_len (P := P) HDL.out (by omega) (by omega) (by omega))
    have L2 := Lib.hid (denV_len (L := L) (P := P) (by omega) (by omega))
    have L3 := Lib.hid (rnN_len (k := k) (p := p) (way := -1) HDg.out (by omega) (by omega) (by omega) (by omega))
    have L4 := Lib.hid (rnD_len (l := l) (k := k) (p := p) (way := -1) (by omega) (by omega) (by omega) (by omega))
    go_region_held3 (fun w' => (w'.cell? ⟨h, 0, none⟩ = some (.string (bs L)) ∧ w'.cell? ⟨h, 1, none⟩ = some (.int .i64 P) ∧ w'.cell? ⟨h, 2, none⟩ = some (.bool neg) ∧ w'.cell? ⟨h, 3, none⟩ = some (.bool false)) ∧ w'.cell? ⟨g, 0, none⟩ = some (.string (bs l)) ∧ w'.cell? ⟨g, 1, none⟩ = some (.int .i64 p) ∧ w'.cell? ⟨g, 2, none⟩ = some (.bool neg) ∧ w'.cell? ⟨g, 3, none⟩ = some (.bool false))
      (first | exact S.out _ hb6 | exact S.out _ hb5 | exact S.out _ hb4 | exact ⟨⟨c0, c1, c2, c3⟩, d0, d1, d2, d3⟩)
      (first
        | (go_at_call 13; refine (value_any L P neg false _ HDL.out (by omega) (by omega) (by omega)).mono ?_; rintro e' w4 ⟨vn4, vd4, rfl, hn4, hd4, hb4'⟩; have hb4 := undrew hb4')
        | (go_at_call 15; refine (rounded_all l k p (-1) neg false _ HDg.out (by omega) (by omega) (by omega) (by omega) (by decide)).mono ?_; rintro e' w5 ⟨vn5, vd5, rfl, hn5, hd5, hb5'⟩; have hb5 := hb4.trans (hb5'.mono hb4.size))
        | (go_at_call 14; refine (cmp_any _ _ (numV L P) (denV L P) (rnN l k p (-1)) (rnD l k p (-1)) _ ⟨_, _, rfl, hn4.later hb5', hd4.later hb5'⟩ ⟨_, _, rfl, hn5, hd5⟩ (by have h1 := L1.out; have h2 := L4.out; omega) (by have h1 := L2.out; have h2 := L3.out; omega)).mono ?_; rintro e' w6 ⟨rfl, hb6'⟩; have hb6 := hb5.trans (hb6'.mono hb5.size)))
    all_goals
      have R := Lib.hid (HB3.out.trans (hb6.mono HB3.out.size))
      clear hn4 hd4 hb4 hb4' hn5 hd5 hb5 hb5' hb6 hb6' c0 c1 c2 c3 d0 d1 d2 d3
      go_wp2_with fail
      go_ret
      exact ⟨rfl, R.out⟩
end Go.Proofs.Ytfkhingkmfapbaa
