/- NatLen, log, signed, Inf of the reference, by contracts. -/
import Derived.Test.YtfkhingkmfapbaaFlP
import Derived.Test.YtfkhingkmfapbaaFRP

namespace Go.Proofs.Ytfkhingkmfapbaa
open Go.RowKit

theorem bl_top {n : Nat} (h : n ≠ 0) : bl n = 32 * (Num.len n - 1) + bl (Num.dig n (Num.len n - 1)) := by
  have hl : Num.len n ≠ 0 := fun e => h (Num.len_eq_zero.1 e)
  have ht := Num.dig_top h
  have e := Num.upto_dig (Nat.le_refl (Num.len n))
  obtain ⟨m, hm⟩ : ∃ m, Num.len n = m + 1 := ⟨Num.len n - 1, by omega⟩
  rw [hm] at ht e ⊢
  rw [Nat.add_sub_cancel] at ht ⊢
  rw [Num.upto] at e
  have hlt := Num.upto_dig_lt n m
  rw [Num.pow_base] at e hlt
  have a := bl_lt (Num.dig n m)
  have b := bl_le ht
  have c := bl_pos ht
  generalize Num.dig n m = t at *
  generalize Num.upto (Num.dig n) m = r at *
  obtain ⟨k, hk⟩ : ∃ k, bl t = k + 1 := ⟨bl t - 1, by omega⟩
  rw [hk, Nat.add_sub_cancel] at b
  rw [hk] at a ⊢
  rw [← Nat.add_assoc]
  apply bl_of
  · rw [Nat.pow_add, ← e, Nat.mul_comm]
    have := Nat.mul_le_mul_right (2 ^ (32 * m)) b
    omega
  · rw [Nat.add_assoc, Nat.pow_add, ← e]
    have := Nat.mul_le_mul_right (2 ^ (32 * m)) (show t + 1 ≤ 2 ^ (k + 1) by omega)
    rw [Nat.add_mul, Nat.one_mul] at this
    rw [Nat.mul_comm (2 ^ (32 * m))]
    omega
theorem bl_half {t j : Nat} (h : t / 2 ^ j ≠ 0) : j < bl t := by
  rcases Nat.lt_or_ge j (bl t) with h1 | h1
  · exact h1
  · exact absurd (Nat.div_eq_of_lt (Nat.lt_of_lt_of_le (bl_lt t) (Nat.pow_le_pow_right (by omega) h1))) h
theorem bl_end {t j : Nat} (h0 : j ≤ bl t) (h : t / 2 ^ j = 0) : j = bl t := by
  rcases Nat.eq_or_lt_of_le h0 with h1 | h1
  · exact h1
  · exfalso
    by_cases ht : t = 0
    · subst ht; simp [bl] at h1
    · have h2 := bl_le ht
      have h3 := Nat.lt_of_div_eq_zero (Nat.pow_pos (by omega)) h
      have := Nat.pow_le_pow_right (n := 2) (by omega) (show j ≤ bl t - 1 by omega)
      omega

set_option maxHeartbeats 1000000 in
set_option maxRecDepth 100000 in
theorem natLen_any (v : Value) (n : Nat) (w : World) (h : IsNat w v n) (hl : Num.len n ≤ 100000) :
    Calls Try.prog 77 #[v] w fun e w' => e = .returned (.int .i64 (bl n : Int)) ∧ w = w' := by
  rcases h.shape with ⟨rfl, hn⟩ | ⟨g, cap, rfl, _, _, _, hc⟩
  · subst hn
    go_enter Try.func77, Try.ntmps77
    go_wp2_with fail
    go_ret
    exact ⟨rfl, rfl⟩
  · by_cases hn : n = 0
    · subst hn
      have h0 : ((Num.len 0 : Nat) : Int) = 0 := by rw [Num.len_zero]; rfl
      rw [Num.len_zero]
      clear h hc h0
      go_enter Try.func77, Try.ntmps77
      go_wp2_with fail
      go_ret
      exact ⟨rfl, rfl⟩
    · have hl0 : 1 ≤ Num.len n := by
        rcases Nat.eq_zero_or_pos (Num.len n) with e | e
        · exact absurd (Num.len_eq_zero.1 e) hn
        · exact e
      have HB := Lib.hid (bl_top hn)
      have c0 := hc (Num.len n - 1) (by omega)
      have hd9 := Num.dig_lt n (Num.len n - 1)
      generalize Num.dig n (Num.len n - 1) = t at *
      have ht : ((Num.len n : Int) == 0) = false := by simp; omega
      clear h hc hn
      go_enter Try.func77, Try.ntmps77
      go_wp2_with fail
      go_loop [3, 4] (fun m d => ∃ j : Nat, j ≤ bl t ∧ j ≤ 40 ∧ m = .int .i64 (32 * ((Num.len n : Int) - 1) + (j : Int)) ∧ d = .int .u32 ((t / 2 ^ j : Nat) : Int)) (fun _ d => (intOf d).toNat)
      case atStart => exact ⟨0, by omega, by omega, by go_num, by simp⟩
      case round =>
        obtain ⟨j, hj, hj2, rfl, rfl⟩ := hrel
        obtain ⟨T, hT⟩ : ∃ T, T = t / 2 ^ j := ⟨_, rfl⟩
        have hT9 : T < 4294967296 := by rw [hT]; exact Nat.lt_of_le_of_lt (Nat.div_le_self _ _) hd9
        have hN : Hid (T / 2 = t / 2 ^ (j + 1)) := by show _ = _; rw [hT, Nat.div_div_eq_div_mul, Nat.pow_succ]
        rw [← hT]
        by_cases h0 : T = 0
        · have hE : Hid (j = bl t) := bl_end hj (by rw [← hT]; exact h0)
          subst h0
          clear hT
          go_wp2_with fail
          go_ret
          exact ⟨ret_int (by rw [HB.out, ← hE.out]; omega), rfl⟩
        · have hlt : j < bl t := bl_half (by rw [← hT]; exact h0)
          have hj9 : j + 1 ≤ 40 := by
            have : bl t ≤ 32 := by
              rcases Nat.lt_or_ge 32 (bl t) with h | h
              · exfalso
                have h2 := bl_le (n := t) (by intro e; rw [e] at h; simp [bl] at h)
                have := Nat.pow_le_pow_right (n := 2) (by omega) (show 32 ≤ bl t - 1 by omega)
                omega
              · exact h
            omega
          have hT1 : 0 < T := by omega
          clear hT h0
          go_wp2_with fail
          go_round
          case rel => exact ⟨j + 1, by omega, by omega, by go_num, by rw [← hN.out]; go_num⟩
          case measure => simp [intOf]; omega

theorem natShl_nt (va : Value) (a n : Nat) (w : World) (ha : IsNat w va a) (hl : Num.len a ≤ 100000) (n1 : n ≤ 1000000) : Calls Try.prog 39 #[va, .int .i64 (n : Int)] w (GivesNat (a * 2 ^ n) w) := by
  have h := natShl_any va a (n : Int) w ha hl (by omega) (by omega)
  rwa [Int.toNat_natCast] at h
theorem lgQ_up {num den K : Nat} (h : (bl num : Int) - (bl den : Int) = (K : Int)) : lgQ num den = if num < den * 2 ^ K then (K : Int) - 1 else (K : Int) := by
  unfold lgQ
  rw [h, show (-(K : Int)).toNat = 0 by omega, Int.toNat_natCast, Nat.pow_zero, Nat.mul_one]
theorem lgQ_dn {num den K : Nat} (h : (bl num : Int) - (bl den : Int) = -(K : Int)) : lgQ num den = if num * 2 ^ K < den then -(K : Int) - 1 else -(K : Int) := by
  unfold lgQ
  rw [h, show (- -(K : Int)).toNat = K by omega, show (-(K : Int)).toNat = 0 by omega, Nat.pow_zero, Nat.mul_one]
theorem bl_len (n : Nat) : bl n ≤ 32 * Num.len n := by
  by_cases h : n = 0
  · subst h; simp [bl]
  · have h1 := bl_le h
    have h2 := Num.lt_pow_len n
    rw [Num.pow_base] at h2
    have := (Nat.pow_lt_pow_iff_right (a := 2) (by omega)).1 (Nat.lt_of_le_of_lt h1 h2)
    omega

set_option maxHeartbeats 1000000 in
set_option maxRecDepth 100000 in
theorem log_any (vn vd : Value) (num den : Nat) (w : World) (hn : IsNat w vn num) (hd : IsNat w vd den) (l1 : Num.len num ≤ 20000) (l2 : Num.len den ≤ 20000) :
    Calls Try.prog 67 #[vn, vd] w fun e w' => e = .returned (.int .i64 (lgQ num den)) ∧ Below w.heap.size w w' := by
  obtain ⟨An, cn, rfl, _, _⟩ := natLen_shape hn
  obtain ⟨Ad, cd, rfl, _, _⟩ := natLen_shape hd
  have HN := Lib.hid hn
  have HD := Lib.hid hd
  have n9 := bl_len num
  have d9 := bl_len den
  clear hn hd
  by_cases hk : (0 : Int) ≤ (bl num : Int) - (bl den : Int)
  · obtain ⟨K, hK⟩ := Int.eq_ofNat_of_zero_le hk
    have hK9 : K ≤ 1000000 := by omega
    have HE := Lib.hid (lgQ_up hK)
    clear hk
    go_enter Try.func67, Try.ntmps67
    go_wp2_with fail
    refine (natLen_any _ num _ HN.out (by omega)).mono ?_
    rintro e w1 ⟨rfl, rfl⟩
    go_wp2_with fail
    refine (natLen_any _ den _ HD.out (by omega)).mono ?_
    rintro e w1 ⟨rfl, rfl⟩
    go_wp2_with fail
    refine (natShl_nt _ den K _ HD.out (by omega) hK9).mono ?_
    rintro e w1 ⟨v1, rfl, hv1, hb1⟩
    have HV1 := Lib.hid hv1
    have HN1 := Lib.hid (HN.out.later hb1)
    have HB1 := Lib.hid hb1
    clear hv1 hb1
    go_wp2_with fail
    refine (natCmp_any _ _ num (den * 2 ^ K) _ HN1.out HV1.out).mono ?_
    rintro e w2 ⟨rfl, rfl⟩
    by_cases hc : num < den * 2 ^ K
    · rw [cmpN_lt hc]
      have HE2 : Hid (lgQ num den = (K : Int) - 1) := by show _ = _; rw [HE.out, if_pos hc]
      clear hc
      go_wp2_with fail
      go_ret
      exact ⟨ret_int (by rw [HE2.out]), HB1.out⟩
    · have t1 : (0 : Int) ≤ cmpN num (den * 2 ^ K) := by unfold cmpN; rw [if_neg hc]; split <;> decide
      have HE2 : Hid (lgQ num den = (K : Int)) := by show _ = _; rw [HE.out, if_neg hc]
      clear hc
      go_wp2_with fail
      go_ret
      exact ⟨ret_int (by rw [HE2.out]), HB1.out⟩
  · obtain ⟨K, hK⟩ : ∃ K : Nat, (bl num : Int) - (bl den : Int) = -(K : Int) := ⟨((bl num : Int) - (bl den : Int)).natAbs, by omega⟩
    have hK9 : K ≤ 1000000 := by omega
    have hK1 : 1 ≤ K := by omega
    have hK2 : decide ((0 : Int) ≤ -(K : Int)) = false := by simp; omega
    have HE := Lib.hid (lgQ_dn hK)
    clear hk
    go_enter Try.func67, Try.ntmps67
    go_wp2_with fail
    refine (natLen_any _ num _ HN.out (by omega)).mono ?_
    rintro e w1 ⟨rfl, rfl⟩
    go_wp2_with fail
    refine (natLen_any _ den _ HD.out (by omega)).mono ?_
    rintro e w1 ⟨rfl, rfl⟩
    go_wp2_with fail
    refine (natShl_nt _ num K _ HN.out (by omega) hK9).mono ?_
    rintro e w1 ⟨v1, rfl, hv1, hb1⟩
    have HV1 := Lib.hid hv1
    have HD1 := Lib.hid (HD.out.later hb1)
    have HB1 := Lib.hid hb1
    clear hv1 hb1
    go_wp2_with fail
    refine (natCmp_any _ _ (num * 2 ^ K) den _ HV1.out HD1.out).mono ?_
    rintro e w2 ⟨rfl, rfl⟩
    by_cases hc : num * 2 ^ K < den
    · rw [cmpN_lt hc]
      have HE2 : Hid (lgQ num den = -(K : Int) - 1) := by show _ = _; rw [HE.out, if_pos hc]
      clear hc
      go_wp2_with fail
      go_ret
      exact ⟨ret_int (by rw [HE2.out]), HB1.out⟩
    · have t1 : (0 : Int) ≤ cmpN (num * 2 ^ K) den := by unfold cmpN; rw [if_neg hc]; split <;> decide
      have HE2 : Hid (lgQ num den = -(K : Int)) := by show _ = _; rw [HE.out, if_neg hc]
      clear hc
      go_wp2_with fail
      go_ret
      exact ⟨ret_int (by rw [HE2.out]), HB1.out⟩
end Go.Proofs.Ytfkhingkmfapbaa
/- Format.Round of the reference, by a contract. -/
namespace Go.Proofs.Ytfkhingkmfapbaa
open Go.RowKit

/-- a format as a value -/
def fmtV (D F : Nat) (least : Int) (top sg : Nat) : Array Value := #[.int .i64 (D : Int), .int .i64 (F : Int), .int .i64 least, .int .u64 (top : Int), .int .u64 (sg : Int)]

set_option maxHeartbeats 1000000 in
set_option maxRecDepth 100000 in
theorem signed_any (D F : Nat) (least : Int) (top sg b : Nat) (neg : Bool) (w : World) (hs : sg < 18446744073709551616) (hb : b < 18446744073709551616) :
    Calls Try.prog 66 #[.agg #[.int .i64 (D : Int), .int .i64 (F : Int), .int .i64 least, .int .u64 (top : Int), .int .u64 (sg : Int)], .bool neg, .int .u64 (b : Int)] w fun e w' => e = .returned (.int .u64 ((sgnB neg sg b : Nat) : Int)) ∧ Below w.heap.size w w' := by
  have HW := Lib.hid (below_new w (.cells #[.int .i64 (D : Int), .int .i64 (F : Int), .int .i64 least, .int .u64 (top : Int), .int .u64 (sg : Int)] 60))
  have hor : bits BinOp.or IntKind.u64 (sg : Int) (b : Int) = ((sg ||| b : Nat) : Int) := u64_or_nat sg b hs hb
  cases neg
  · clear hor
    go_enter Try.func66, Try.ntmps66
    go_wp2_with fail
    go_ret
    exact ⟨rfl, HW.out⟩
  · go_enter Try.func66, Try.ntmps66
    go_wp2_with fail
    go_ret
    exact ⟨ret_int (by first | rfl | (rw [u64_or_nat sg b hs hb]; rfl)), HW.out⟩

theorem shl_u64 {x n : Nat} (h : x * 2 ^ n < 18446744073709551616) : IntKind.u64.wrap ((x : Int) * 2 ^ n) = ((x * 2 ^ n : Nat) : Int) := by
  have e : (x : Int) * 2 ^ n = ((x * 2 ^ n : Nat) : Int) := by rw [Int.natCast_mul, Int.natCast_pow]; rfl
  rw [e]; exact IntWalk.u64_in _ (by omega)

set_option maxHeartbeats 1000000 in
set_option maxRecDepth 100000 in
theorem inf_any (D F : Nat) (least : Int) (top sg : Nat) (neg : Bool) (w : World) (hs : sg < 18446744073709551616) (hF : F ≤ 60) (hb : top * 2 ^ F < 18446744073709551616) :
    Calls Try.prog 68 #[.agg #[.int .i64 (D : Int), .int .i64 (F : Int), .int .i64 least, .int .u64 (top : Int), .int .u64 (sg : Int)], .bool neg] w fun e w' => e = .returned (.int .u64 ((sgnB neg sg (top * 2 ^ F) : Nat) : Int)) ∧ Below w.heap.size w w' := by
  have HW := Lib.hid (below_new w (.cells #[.int .i64 (D : Int), .int .i64 (F : Int), .int .i64 least, .int .u64 (top : Int), .int .u64 (sg : Int)] 60))
  have HK := Lib.hid (Box.new w 60 #[.int .i64 (D : Int), .int .i64 (F : Int), .int .i64 least, .int .u64 (top : Int), .int .u64 (sg : Int)])
  obtain ⟨X, hX⟩ : ∃ X, X = top * 2 ^ F := ⟨_, rfl⟩
  have hsh := shl_u64 hb
  rw [← hX] at hsh hb ⊢
  clear hX
  go_enter Try.func68, Try.ntmps68
  go_wp2_with fail
  generalize w.alloc (.cells #[.int .i64 (D : Int), .int .i64 (F : Int), .int .i64 least, .int .u64 (top : Int), .int .u64 (sg : Int)] 60) = W at *
  have c0 : W.cell? ⟨w.heap.size, 0, none⟩ = some (.int .i64 (D : Int)) := by rw [HK.out.cell 0]; rfl
  have c1 : W.cell? ⟨w.heap.size, 1, none⟩ = some (.int .i64 (F : Int)) := by rw [HK.out.cell 1]; rfl
  have c2 : W.cell? ⟨w.heap.size, 2, none⟩ = some (.int .i64 least) := by rw [HK.out.cell 2]; rfl
  have c3 : W.cell? ⟨w.heap.size, 3, none⟩ = some (.int .u64 (top : Int)) := by rw [HK.out.cell 3]; rfl
  have c4 : W.cell? ⟨w.heap.size, 4, none⟩ = some (.int .u64 (sg : Int)) := by rw [HK.out.cell 4]; rfl
  have hF0 : (0 : Int) ≤ (F : Int) := by omega
  have hF1 : (F : Int) ≤ 60 := by omega
  go_region_held3 (fun w' => (w'.cell? ⟨w.heap.size, 0, none⟩ = some (.int .i64 (D : Int)) ∧ w'.cell? ⟨w.heap.size, 1, none⟩ = some (.int .i64 (F : Int)) ∧ w'.cell? ⟨w.heap.size, 2, none⟩ = some (.int .i64 least) ∧ w'.cell? ⟨w.heap.size, 3, none⟩ = some (.int .u64 (top : Int)) ∧ w'.cell? ⟨w.heap.size, 4, none⟩ = some (.int .u64 (sg : Int))))
    (first | exact ⟨c0, c1, c2, c3, c4⟩ | exact ⟨by rw [K4.cell 0]; rfl, by rw [K4.cell 1]; rfl, by rw [K4.cell 2]; rfl, by rw [K4.cell 3]; rfl, by rw [K4.cell 4]; rfl⟩)
    (first
      | (go_at_call 66; refine (signed_any D F least top sg X neg _ hs hb).mono ?_; rintro e' w4 ⟨rfl, hb4'⟩; have hb4 := undrew hb4'; have K4 := HK.out.later hb4 HK.out.lt))
  all_goals
    have R := Lib.hid (HW.out.trans (hb4.mono HW.out.size))
    clear hb4 hb4' K4 c0 c1 c2 c3 c4
    go_wp2_with fail
    go_ret
    exact ⟨rfl, R.out⟩
end Go.Proofs.Ytfkhingkmfapbaa
/- Format.Round of the reference, by a contract. -/
namespace Go.Proofs.Ytfkhingkmfapbaa
open Go.RowKit

theorem log_is (vn vd : Value) (num den : Nat) (L : Int) (w : World) (hn : IsNat w vn num) (hd : IsNat w vd den) (l1 : Num.len num ≤ 20000) (l2 : Num.len den ≤ 20000) (hL : lgQ num den = L) :
    Calls Try.prog 67 #[vn, vd] w fun e w' => e = .returned (.int .i64 L) ∧ Below w.heap.size w w' := by
  subst hL; exact log_any vn vd num den w hn hd l1 l2
theorem lgQ_abs (num den : Nat) (l1 : Num.len num ≤ 20000) (l2 : Num.len den ≤ 20000) : -700000 ≤ lgQ num den ∧ lgQ num den ≤ 700000 := by
  have n9 := bl_len num
  have d9 := bl_len den
  unfold lgQ
  split <;> omega

set_option maxHeartbeats 1000000 in
set_option maxRecDepth 100000 in
theorem round_zero (D F : Nat) (least : Int) (top sg den : Nat) (neg : Bool) (vn vd : Value) (w : World) (hn : IsNat w vn 0) (hd : IsNat w vd den) (hs : sg < 18446744073709551616) :
    Calls Try.prog 53 #[.agg #[.int .i64 (D : Int), .int .i64 (F : Int), .int .i64 least, .int .u64 (top : Int), .int .u64 (sg : Int)], .bool neg, vn, vd, .int .i64 0] w fun e w' => e = .returned (.int .u64 ((sgnB neg sg (rungQ F least top 0 den) : Nat) : Int)) ∧ Below w.heap.size w w' := by
  obtain ⟨An, cn, rfl, _, _⟩ := natLen_shape hn
  obtain ⟨Ad, cd, rfl, _, _⟩ := natLen_shape hd
  rw [Num.len_zero]
  have HW := Lib.hid (below_new w (.cells #[.int .i64 (D : Int), .int .i64 (F : Int), .int .i64 least, .int .u64 (top : Int), .int .u64 (sg : Int)] 60))
  have HK := Lib.hid (Box.new w 60 #[.int .i64 (D : Int), .int .i64 (F : Int), .int .i64 least, .int .u64 (top : Int), .int .u64 (sg : Int)])
  clear hn hd
  have hr : Hid (rungQ F least top 0 den = 0) := by show _ = _; unfold rungQ; rw [if_pos rfl]
  go_enter Try.func53, Try.ntmps53
  go_wp2_with fail
  generalize w.alloc (.cells #[.int .i64 (D : Int), .int .i64 (F : Int), .int .i64 least, .int .u64 (top : Int), .int .u64 (sg : Int)] 60) = W at *
  have c0 : W.cell? ⟨w.heap.size, 0, none⟩ = some (.int .i64 (D : Int)) := by rw [HK.out.cell 0]; rfl
  have c1 : W.cell? ⟨w.heap.size, 1, none⟩ = some (.int .i64 (F : Int)) := by rw [HK.out.cell 1]; rfl
  have c2 : W.cell? ⟨w.heap.size, 2, none⟩ = some (.int .i64 least) := by rw [HK.out.cell 2]; rfl
  have c3 : W.cell? ⟨w.heap.size, 3, none⟩ = some (.int .u64 (top : Int)) := by rw [HK.out.cell 3]; rfl
  have c4 : W.cell? ⟨w.heap.size, 4, none⟩ = some (.int .u64 (sg : Int)) := by rw [HK.out.cell 4]; rfl
  go_wp2_with fail
  refine (signed_any D F least top sg 0 neg _ hs (by decide)).mono ?_
  rintro e w2 ⟨rfl, hb⟩
  have R := Lib.hid (HW.out.trans (hb.mono HW.out.size))
  clear hb
  go_wp2_with fail
  go_ret
  exact ⟨ret_int (by rw [hr.out]), R.out⟩

set_option maxHeartbeats 4000000 in
set_option maxRecDepth 100000 in
theorem round_any (D F : Nat) (least : Int) (top sg num den : Nat) (neg : Bool) (vn vd : Value) (w : World) (hn : IsNat w vn num) (hd : IsNat w vd den) (h0 : num ≠ 0) (h1 : den ≠ 0) (l1 : Num.len num ≤ 20000) (l2 : Num.len den ≤ 20000) (hD : D = F + 1) (hF : F ≤ 52) (le0 : -1100 ≤ least) (le1 : least ≤ 0) (ht : top ≤ 2047) (hs : sg < 18446744073709551616) :
    Calls Try.prog 53 #[.agg #[.int .i64 (D : Int), .int .i64 (F : Int), .int .i64 least, .int .u64 (top : Int), .int .u64 (sg : Int)], .bool neg, vn, vd, .int .i64 0] w fun e w' => e = .returned (.int .u64 ((sgnB neg sg (rungQ F least top num den) : Nat) : Int)) ∧ Below w.heap.size w w' := by
  obtain ⟨An, cn, rfl, _, _⟩ := natLen_shape hn
  obtain ⟨Ad, cd, rfl, _, _⟩ := natLen_shape hd
  have HN := Lib.hid hn
  have HDn := Lib.hid hd
  have HW := Lib.hid (below_new w (.cells #[.int .i64 (D : Int), .int .i64 (F : Int), .int .i64 least, .int .u64 (top : Int), .int .u64 (sg : Int)] 60))
  have HK := Lib.hid (Box.new w 60 #[.int .i64 (D : Int), .int .i64 (F : Int), .int .i64 least, .int .u64 (top : Int), .int .u64 (sg : Int)])
  have H0 := Lib.hid h0
  have H1 := Lib.hid h1
  have hl0 : Num.len num ≠ 0 := fun e => h0 (Num.len_eq_zero.1 e)
  have hz : ((Num.len num : Int) == 0) = false := by simp; omega
  obtain ⟨L, hL⟩ : ∃ L, lgQ num den = L := ⟨_, rfl⟩
  obtain ⟨La, Lb⟩ := lgQ_abs num den l1 l2
  rw [hL] at La Lb
  have HL := Lib.hid hL
  have HDF := Lib.hid hD
  have hD60 : (D : Int) ≤ 60 := by omega
  clear hn hd h0 h1 hl0 hL hD
  go_enter Try.func53, Try.ntmps53
  go_upto_region 3 with fail
  generalize w.alloc (.cells #[.int .i64 (D : Int), .int .i64 (F : Int), .int .i64 least, .int .u64 (top : Int), .int .u64 (sg : Int)] 60) = W at *
  have S : Hid (∀ w' : World, Below W.heap.size W w' → w'.cell? ⟨w.heap.size, 0, none⟩ = some (.int .i64 (D : Int)) ∧ w'.cell? ⟨w.heap.size, 1, none⟩ = some (.int .i64 (F : Int)) ∧ w'.cell? ⟨w.heap.size, 2, none⟩ = some (.int .i64 least) ∧ w'.cell? ⟨w.heap.size, 3, none⟩ = some (.int .u64 (top : Int)) ∧ w'.cell? ⟨w.heap.size, 4, none⟩ = some (.int .u64 (sg : Int))) := fun w' hb => by
    have k := HK.out.later hb HK.out.lt
    exact ⟨by rw [k.cell 0]; rfl, by rw [k.cell 1]; rfl, by rw [k.cell 2]; rfl, by rw [k.cell 3]; rfl, by rw [k.cell 4]; rfl⟩
  have HNW := Lib.hid (HN.out.later HW.out)
  have HDW := Lib.hid (HDn.out.later HW.out)
  obtain ⟨c0, c1, c2, c3, c4⟩ := S.out W (Below.refl _ _)
  have hw1 : IntKind.i64.wrap L = L := IntWalk.i64_in _ (by omega)
  have hw2 : IntKind.i64.wrap (L - (D : Int)) = L - (D : Int) := IntWalk.i64_in _ (by omega)
  have hw3 : IntKind.i64.wrap (L - (D : Int) + 1) = L - (D : Int) + 1 := IntWalk.i64_in _ (by omega)
  go_cut [11] (fun q wx => q = .int .i64 (max (L - (D : Int) + 1) least) ∧ Hid (Below W.heap.size W wx))
  case first =>
    go_region_held3 (fun w' => w'.cell? ⟨w.heap.size, 0, none⟩ = some (.int .i64 (D : Int)) ∧ w'.cell? ⟨w.heap.size, 1, none⟩ = some (.int .i64 (F : Int)) ∧ w'.cell? ⟨w.heap.size, 2, none⟩ = some (.int .i64 least) ∧ w'.cell? ⟨w.heap.size, 3, none⟩ = some (.int .u64 (top : Int)) ∧ w'.cell? ⟨w.heap.size, 4, none⟩ = some (.int .u64 (sg : Int)))
      (first | exact ⟨c0, c1, c2, c3, c4⟩ | exact S.out _ hb4)
      (first
        | (go_at_call 67; refine (log_is _ _ num den L _ HNW.out.drew HDW.out.drew l1 l2 HL.out).mono ?_; rintro e' w4 ⟨rfl, hb4'⟩; have hb4 := undrew hb4'))
    all_goals
      have R := Lib.hid hb4
      clear hb4 hb4' c0 c1 c2 c3 c4
      go_wp2_with fail
      all_goals
        go_meet
        refine ⟨?_, R.out⟩
        clear hw1 hw2 hw3
        congr 1
        rw [Int.max_def]
        split <;> omega
  case rest =>
    obtain ⟨rfl, hb⟩ := hcut
    obtain ⟨W2, rfl⟩ : ∃ W2 : World, W2 = wc := ⟨_, rfl⟩
    clear c0 c1 c2 c3 c4 hw1 hw2 hw3
    have HQ0 : Hid (max (L - (D : Int) + 1) least = qQ F least num den) := by
      show _ = _
      unfold qQ
      rw [HL.out, HDF.out]
      congr 1
      omega
    have q0 : least ≤ max (L - (D : Int) + 1) least := Int.le_max_right _ _
    have q2 : L - (D : Int) + 1 ≤ max (L - (D : Int) + 1) least := Int.le_max_left _ _
    have q1 : max (L - (D : Int) + 1) least ≤ 700001 := Int.max_le.2 ⟨by omega, by omega⟩
    generalize max (L - (D : Int) + 1) least = Q at *
    obtain ⟨c0, c1, c2, c3, c4⟩ := S.out W2 hb.out
    have hF52 : top * 2 ^ F < 9223372036854775808 := by
      have := Nat.mul_le_mul ht (Nat.pow_le_pow_right (n := 2) (by omega) hF)
      omega
    by_cases hbig : (top : Int) < Q - least
    · have HR : Hid (rungQ F least top num den = top * 2 ^ F) := by
        show _ = _
        unfold rungQ
        rw [if_neg H0.out, ← HQ0.out]
        have h1 : top * 2 ^ F ≤ (Q - least).toNat * 2 ^ F := Nat.mul_le_mul_right _ (by omega)
        omega
      go_wp2_with fail
      refine (inf_any D F least top sg neg _ hs (by omega) (by omega)).mono ?_
      rintro e w3 ⟨rfl, hb3⟩
      have R := Lib.hid (HW.out.trans ((hb.out.trans (hb3.mono hb.out.size)).mono HW.out.size))
      clear hb3 c0 c1 c2 c3 c4
      go_wp2_with fail
      go_ret
      exact ⟨ret_int (by rw [HR.out]), R.out⟩
    · have hbig' : decide ((top : Int) < Q - least) = false := decide_eq_false hbig
      have hqt : (Q - least).toNat ≤ 2047 := by omega
      clear hbig
      have HN2 := Lib.hid (HNW.out.later hb.out)
      have HD2 := Lib.hid (HDW.out.later hb.out)
      go_upto_if 47 with fail
      go_cut [2, 3] (fun xn xd wx => Hid (IsNat wx xn (num * 2 ^ (-Q).toNat) ∧ IsNat wx xd (den * 2 ^ Q.toNat) ∧ Below W.heap.size W wx))
      case first =>
        by_cases hq : Q ≤ 0
        · obtain ⟨k, hk⟩ : ∃ k : Nat, Q = -(k : Int) := ⟨Q.natAbs, by omega⟩
          subst hk
          have hk9 : k ≤ 1000000 := by omega
          have t0 : decide (-(k : Int) ≤ 0) = true := decide_eq_true (by omega)
          clear c0 c1 c2 c3 c4
          go_wp2_with fail
          refine (natShl_nt _ num k _ HN2.out (by omega) hk9).mono ?_
          rintro e w3 ⟨v3, rfl, hv3, hb3⟩
          have R1 := Lib.hid hv3
          have R2 := Lib.hid (HD2.out.later hb3)
          have R3 := Lib.hid (hb.out.trans (hb3.mono hb.out.size))
          clear hv3 hb3
          go_wp2_with fail
          go_meet
          refine ⟨?_, ?_, R3.out⟩
          · rw [show (- -(k : Int)).toNat = k by omega]; exact R1.out
          · rw [show (-(k : Int)).toNat = 0 by omega, Nat.pow_zero, Nat.mul_one]; exact R2.out
        · obtain ⟨k, rfl⟩ : ∃ k : Nat, Q = (k : Int) := ⟨Q.toNat, by omega⟩
          have hk9 : k ≤ 1000000 := by omega
          have t0 : decide ((k : Int) ≤ 0) = false := decide_eq_false (by omega)
          have t1 : decide (k ≤ 0) = false := decide_eq_false (by omega)
          clear c0 c1 c2 c3 c4
          go_wp2_with fail
          refine (natShl_nt _ den k _ HD2.out (by omega) hk9).mono ?_
          rintro e w3 ⟨v3, rfl, hv3, hb3⟩
          have R1 := Lib.hid hv3
          have R2 := Lib.hid (HN2.out.later hb3)
          have R3 := Lib.hid (hb.out.trans (hb3.mono hb.out.size))
          clear hv3 hb3
          go_wp2_with fail
          go_meet
          refine ⟨?_, ?_, R3.out⟩
          · rw [show (-(k : Int)).toNat = 0 by omega, Nat.pow_zero, Nat.mul_one]; exact R2.out
          · rw [Int.toNat_natCast]; exact R1.out
      case rest =>
        obtain ⟨r1, r2, r3⟩ := hcut.out
        obtain ⟨W3, rfl⟩ : ∃ W3 : World, W3 = wc := ⟨_, rfl⟩
        clear hcut c0 c1 c2 c3 c4
        have hlt : num * 2 ^ (-Q).toNat < den * 2 ^ Q.toNat * 2 ^ D :=
          rnQ_bound (L := Q + (D : Int)) (fun h => (lgQ_spec H0.out H1.out).2 (geP_mono (by rw [HL.out]; omega) h)) rfl
        have HRd : Hid (rungQ F least top num den = min ((Q - least).toNat * 2 ^ F + rhe (num * 2 ^ (-Q).toNat) (den * 2 ^ Q.toNat)) (top * 2 ^ F)) := by
          show _ = _
          unfold rungQ
          rw [if_neg H0.out, ← HQ0.out]; rfl
        have ln : Num.len (num * 2 ^ (-Q).toNat) ≤ 60000 := by have := Num.len_shl num (-Q).toNat; omega
        have ld : Num.len (den * 2 ^ Q.toNat) ≤ 60000 := by have := Num.len_shl den Q.toNat; omega
        have hd0 : 0 < den * 2 ^ Q.toNat := Nat.mul_pos (by have := H1.out; omega) (Nat.pow_pos (by omega))
        generalize num * 2 ^ (-Q).toNat = A at *
        generalize den * 2 ^ Q.toNat = B at *
        obtain ⟨Aa, ca, rfl, _, _⟩ := natLen_shape r1
        obtain ⟨Ab, cb, rfl, _, _⟩ := natLen_shape r2
        have R1 := Lib.hid r1
        have R2 := Lib.hid r2
        have R3 := Lib.hid r3
        have HLT := Lib.hid hlt
        have HD0 := Lib.hid hd0
        obtain ⟨c0, c1, c2, c3, c4⟩ := S.out W3 r3
        clear r1 r2 r3 hlt hd0
        go_wp2_with fail
        clear c0 c1 c2 c3 c4
        go_loopw [2, 12, 13] (fun v n i wr => ∃ k : Nat, k ≤ D + 1 ∧ i = .int .i64 ((k : Int) - 1) ∧ n = .int .u64 (flN A B k : Int) ∧ Hid (IsNat wr v (flR A B k)) ∧ Hid (Below W3.heap.size W3 wr)) (fun _ _ i _ => (intOf i + 1).toNat)
        case atStart =>
          obtain ⟨s1, s2⟩ := fl_start (k := D + 1) (Nat.lt_of_lt_of_le HLT.out (Nat.mul_le_mul_left _ (Nat.pow_le_pow_right (by omega) (by omega))))
          exact ⟨D + 1, Nat.le_refl _, by go_num, by rw [s1]; rfl, by show IsNat _ _ _; rw [s2]; exact R1.out, Below.refl _ _⟩
        case round =>
          obtain ⟨k, hk, rfl, rfl, hv, hb⟩ := hrel
          by_cases hk0 : k = 0
          · subst hk0
            obtain ⟨s1, s2⟩ := fl_end A B
            rw [s1]
            have hqlt := Nat.lt_of_le_of_lt (Nat.le_of_eq s1.symm) (flN_lt (k := 0) HD0.out HLT.out)
            have hv1 := hv.out
            rw [s2] at hv1
            have HV1 := Lib.hid hv1
            obtain ⟨A1, c1, rfl, _, _⟩ := natLen_shape hv1
            have hlen : Num.len (A % B) ≤ 100000 := by have := Num.len_mono (Nat.mod_le A B); omega
            have hpD : 2 ^ D ≤ 2 ^ 53 := Nat.pow_le_pow_right (by omega) (by have := HDF.out; omega)
            have HOD := Lib.hid (odd_bit64 (show A / B < 18446744073709551616 by omega))
            have hq53 : A / B < 9007199254740992 := by omega
            have HRH : Hid (rhe A B = A / B + if B < A % B * 2 ∨ (A % B * 2 = B ∧ A / B % 2 = 1) then 1 else 0) := rfl
            clear hv hv1 s1 s2 hqlt hpD
            generalize A / B = q at *
            go_wp2_with fail
            refine (natShl_any _ (A % B) 1 _ HV1.out hlen (by omega) (by omega)).mono ?_
            rintro e w4 ⟨v4, rfl, hv4, hb4⟩
            have HV4 : Hid (IsNat w4 v4 (A % B * 2)) := by exact hv4
            have HB4 := Lib.hid (hb.out.trans (hb4.mono hb.out.size))
            obtain ⟨A4, c4, rfl, _, _⟩ := natLen_shape hv4
            clear hv4 hb4
            go_wp2_with fail
            refine (natCmp_any _ _ (A % B * 2) B _ HV4.out (R2.out.later HB4.out)).mono ?_
            rintro e w5 ⟨rfl, rfl⟩
            obtain ⟨up, hup⟩ : ∃ up : Bool, up = decide (B < A % B * 2 ∨ (A % B * 2 = B ∧ q % 2 = 1)) := ⟨_, rfl⟩
            have HUP := Lib.hid hup
            have hRU : Hid (rhe A B = q + if up then 1 else 0) := by
              show _ = _
              rw [HRH.out, hup]
              congr 1
              by_cases hh : B < A % B * 2 ∨ (A % B * 2 = B ∧ q % 2 = 1)
              · rw [if_pos hh, decide_eq_true hh]; rfl
              · rw [if_neg hh, decide_eq_false hh]; rfl
            clear hup
            go_upto_region 18 with fail
            go_cut [15, 92] (fun _ b wx => b = .bool up ∧ wx = w4)
            case first =>
              have hod := HOD.out
              rcases Nat.lt_trichotomy (A % B * 2) B with h | h | h
              · have E : Hid (up = false) := by show _ = _; rw [HUP.out]; exact decide_eq_false (by omega)
                rw [cmpN_lt h]
                clear h hod
                go_wp2_with fail
                go_meet
                exact ⟨by rw [E.out], rfl⟩
              · rw [cmpN_eq h]
                by_cases ho : q % 2 = 1
                · have E : Hid (up = true) := by show _ = _; rw [HUP.out]; exact decide_eq_true (.inr ⟨h, ho⟩)
                  rw [decide_eq_true ho] at hod
                  clear h ho
                  go_wp2_with fail
                  go_meet
                  exact ⟨by rw [E.out], rfl⟩
                · have E : Hid (up = false) := by show _ = _; rw [HUP.out]; exact decide_eq_false (by omega)
                  rw [decide_eq_false ho] at hod
                  clear h ho
                  go_wp2_with fail
                  go_meet
                  exact ⟨by rw [E.out], rfl⟩
              · have E : Hid (up = true) := by show _ = _; rw [HUP.out]; exact decide_eq_true (.inl h)
                rw [cmpN_gt h]
                clear h hod
                go_wp2_with fail
                go_meet
                exact ⟨by rw [E.out], rfl⟩
            case rest =>
            obtain ⟨rfl, rfl⟩ := hcut
            obtain ⟨w4, rfl⟩ : ∃ w0 : World, w0 = wc := ⟨_, rfl⟩
            clear HUP
            go_upto_if 92 with fail
            go_cut [12] (fun n wx => n = .int .u64 ((rhe A B : Nat) : Int) ∧ wx = w4)
            case first =>
              cases up
              · go_wp2_with fail
                go_meet
                exact ⟨by rw [hRU.out]; rfl, rfl⟩
              · go_wp2_with fail
                go_meet
                exact ⟨by rw [hRU.out]; rfl, rfl⟩
            case rest =>
              obtain ⟨rfl, rfl⟩ := hcut
              obtain ⟨w4, rfl⟩ : ∃ w0 : World, w0 = wc := ⟨_, rfl⟩
              have hr9 : rhe A B ≤ 9007199254740992 := by rw [HRH.out]; split <;> omega
              clear HRH HOD hRU
              generalize rhe A B = r at *
              have hBB := R3.out.trans (HB4.out.mono R3.out.size)
              obtain ⟨c0, c1, c2, c3, c4⟩ := S.out w4 hBB
              have HBB := Lib.hid hBB
              clear hBB
              obtain ⟨x, hx⟩ : ∃ x : Nat, x = (Q - least).toNat := ⟨_, rfl⟩
              have hx9 : x * 2 ^ F ≤ 2047 * 2 ^ 52 := Nat.mul_le_mul (by omega) (Nat.pow_le_pow_right (by omega) hF)
              have v1 : IntKind.i64.wrap (Q - least) = (x : Int) := by rw [IntWalk.i64_in _ (by omega)]; omega
              have v2 : IntKind.u64.wrap (x : Int) = (x : Int) := IntWalk.u64_in _ (by omega)
              have v2' : IntKind.u64.wrap (Q - least) = (x : Int) := by rw [IntWalk.u64_in _ (by omega)]; omega
              have v3 := shl_u64 (x := x) (n := F) (by omega)
              have v4 := shl_u64 (x := top) (n := F) (by omega)
              obtain ⟨X, hX⟩ : ∃ X, X = x * 2 ^ F := ⟨_, rfl⟩
              obtain ⟨Y, hY⟩ : ∃ Y, Y = top * 2 ^ F := ⟨_, rfl⟩
              have HF : Hid (rungQ F least top num den = min (X + r) Y) := by show _ = _; rw [HRd.out, hX, hY, hx]
              rw [← hX] at v3 hx9
              rw [← hY] at v4 hF52
              have v5 : IntKind.u64.wrap ((X : Int) + (r : Int)) = ((X + r : Nat) : Int) := by rw [IntWalk.u64_in _ (by omega)]; omega
              have hF0 : (0 : Int) ≤ (F : Int) := by omega
              have hF1 : (F : Int) ≤ 60 := by omega
              have hm9 : min (X + r) Y < 18446744073709551616 := by omega
              have HMin : Hid ((if (Y : Int) < (X : Int) + (r : Int) then (Y : Int) else (X : Int) + (r : Int)) = ((min (X + r) Y : Nat) : Int)) := by
                show _ = _
                split <;> omega
              clear hx hX hY HRd
              go_wp2_with fail
              go_region_held3 (fun w' => w'.cell? ⟨w.heap.size, 0, none⟩ = some (.int .i64 (D : Int)) ∧ w'.cell? ⟨w.heap.size, 1, none⟩ = some (.int .i64 (F : Int)) ∧ w'.cell? ⟨w.heap.size, 2, none⟩ = some (.int .i64 least) ∧ w'.cell? ⟨w.heap.size, 3, none⟩ = some (.int .u64 (top : Int)) ∧ w'.cell? ⟨w.heap.size, 4, none⟩ = some (.int .u64 (sg : Int)))
                (first | exact ⟨c0, c1, c2, c3, c4⟩ | exact S.out _ hb6)
                (first
                  | (go_at_call 66; rw [HMin.out]; refine (signed_any D F least top sg (min (X + r) Y) neg _ hs hm9).mono ?_; rintro e' w6 ⟨rfl, hb6'⟩; have hb6 := HBB.out.trans ((undrew hb6').mono HBB.out.size)))
              all_goals
                have R := Lib.hid (HW.out.trans (hb6.mono HW.out.size))
                clear hb6 hb6' c0 c1 c2 c3 c4
                go_wp2_with fail
                go_ret
                exact ⟨ret_int (by rw [HF.out]), R.out⟩
          · obtain ⟨j, rfl⟩ : ∃ j, k = j + 1 := ⟨k - 1, by omega⟩
            have ej : ((j + 1 : Nat) : Int) - 1 = (j : Int) := by omega
            rw [ej]
            clear ej
            obtain ⟨An2, cn2, rfl, _, _⟩ := natLen_shape hv.out
            go_wp2_with fail
            refine (natShl_nt _ B j _ (R2.out.later hb.out) (by omega) (by omega)).mono ?_
            rintro e w4 ⟨v2, rfl, hv2, hb2⟩
            have HV2 := Lib.hid hv2
            have HB2 := Lib.hid (hb.out.trans (hb2.mono hb.out.size))
            have HR := Lib.hid (hv.out.later hb2)
            obtain ⟨A2, c2, rfl, _, _⟩ := natLen_shape hv2
            clear hv2 hb2
            go_wp2_with fail
            refine (natCmp_any _ _ _ _ _ HR.out HV2.out).mono ?_
            rintro e w5 ⟨rfl, rfl⟩
            by_cases hc : flR A B (j + 1) < B * 2 ^ j
            · obtain ⟨s1, s2⟩ := fl_miss HD0.out hc
              rw [cmpN_lt hc]
              have S1 := Lib.hid s1
              have S2 := Lib.hid s2
              clear s1 s2 hc
              go_wp2_with fail
              go_roundw
              case rel => exact ⟨j, by omega, by go_num, by rw [S1.out], by show IsNat _ _ _; rw [S2.out]; exact HR.out, HB2.out⟩
              case measure => simp [intOf]
            · have hc' : B * 2 ^ j ≤ flR A B (j + 1) := by omega
              obtain ⟨s1, s2⟩ := fl_hit HD0.out hc'
              have t1 : (0 : Int) ≤ cmpN (flR A B (j + 1)) (B * 2 ^ j) := by unfold cmpN; rw [if_neg hc]; split <;> decide
              have S1 := Lib.hid s1
              have S2 := Lib.hid s2
              have HC := Lib.hid hc'
              have hlen : Hid (Num.len (flR A B (j + 1)) ≤ 100000) := by have := Num.len_mono (flR_le A B (j + 1)); show _ ≤ _; omega
              clear s1 s2 hc hc'
              go_wp2_with fail
              refine (natSub_any _ _ _ _ _ HR.out HV2.out HC.out hlen.out).mono ?_
              rintro e w6 ⟨v4, rfl, hv4, hb4⟩
              rw [← S2.out] at hv4
              have HV4 := Lib.hid hv4
              have HB4 := Lib.hid (HB2.out.trans (hb4.mono HB2.out.size))
              clear hv4 hb4
              go_wp2_with fail
              go_roundw
              case rel =>
                refine ⟨j, by omega, by go_num, ?_, HV4.out, HB4.out⟩
                have hfl := flN_lt (k := j + 1) HD0.out HLT.out
                have hpD : 2 ^ D ≤ 2 ^ 53 := Nat.pow_le_pow_right (by omega) (by have := HDF.out; omega)
                rw [or_bit (by omega) (flN_mod _ _ _) (by have := HDF.out; omega), S1.out]
              case measure => simp [intOf]
end Go.Proofs.Ytfkhingkmfapbaa
/- Bits and IsInf of the reference's formats, by contracts. -/
namespace Go.Proofs.Ytfkhingkmfapbaa
open Go.RowKit

theorem below_drewN {B : Nat} {w w' : World} (h : Below B w w') (n : Nat) : Below B w (w'.drewN n) := ⟨h.os, h.tape, h.output, h.size, h.block⟩
theorem shr_u64 (n k : Nat) : (n : Int) / 2 ^ k = ((n / 2 ^ k : Nat) : Int) := by rw [Int.natCast_ediv, Int.natCast_pow]; rfl
theorem and_low {N E : Nat} (hN : N < 18446744073709551616) (hE : E ≤ 60) : bits BinOp.and IntKind.u64 (N : Int) (((2 ^ E - 1 : Nat)) : Int) = ((N % 2 ^ E : Nat) : Int) := by
  have h1 : 2 ^ E ≤ 1152921504606846976 := Nat.pow_le_pow_right (n := 2) (by omega) hE
  rw [u64_and_nat N _ hN (by omega), Nat.and_two_pow_sub_one_eq_mod]

set_option maxHeartbeats 1000000 in
set_option maxRecDepth 100000 in
theorem exp_any (D F E : Nat) (least : Int) (top sg b : Nat) (w : World) (hb : b < 18446744073709551616) (hF : F ≤ 60) (hE : E ≤ 60) (ht : top = 2 ^ E - 1) :
    Calls Try.prog 69 #[.agg #[.int .i64 (D : Int), .int .i64 (F : Int), .int .i64 least, .int .u64 (top : Int), .int .u64 (sg : Int)], .int .u64 (b : Int)] w fun e w' => e = .returned (.int .u64 ((b / 2 ^ F % 2 ^ E : Nat) : Int)) ∧ Below w.heap.size w w' := by
  have HW := Lib.hid (below_new w (.cells #[.int .i64 (D : Int), .int .i64 (F : Int), .int .i64 least, .int .u64 (top : Int), .int .u64 (sg : Int)] 60))
  have HK := Lib.hid (Box.new w 60 #[.int .i64 (D : Int), .int .i64 (F : Int), .int .i64 least, .int .u64 (top : Int), .int .u64 (sg : Int)])
  obtain ⟨q, hq⟩ : ∃ q, q = b / 2 ^ F := ⟨_, rfl⟩
  have e1 : (b : Int) / 2 ^ F = (q : Int) := by rw [shr_u64, ← hq]
  have hq9 : q < 18446744073709551616 := by rw [hq]; exact Nat.lt_of_le_of_lt (Nat.div_le_self _ _) hb
  have e2 : bits BinOp.and IntKind.u64 (q : Int) (top : Int) = ((q % 2 ^ E : Nat) : Int) := by rw [ht]; exact and_low hq9 hE
  rw [← hq]
  obtain ⟨r, hr⟩ : ∃ r, r = q % 2 ^ E := ⟨_, rfl⟩
  rw [← hr] at e2 ⊢
  have hF1 : (F : Int) ≤ 60 := by omega
  clear hq hr ht
  go_enter Try.func69, Try.ntmps69
  go_wp2_with fail
  generalize w.alloc (.cells #[.int .i64 (D : Int), .int .i64 (F : Int), .int .i64 least, .int .u64 (top : Int), .int .u64 (sg : Int)] 60) = W at *
  have c1 : W.cell? ⟨w.heap.size, 1, none⟩ = some (.int .i64 (F : Int)) := by rw [HK.out.cell 1]; rfl
  have c3 : W.cell? ⟨w.heap.size, 3, none⟩ = some (.int .u64 (top : Int)) := by rw [HK.out.cell 3]; rfl
  go_quiet (fail)
  go_wp2_with fail
  go_ret
  exact ⟨rfl, below_drewN HW.out _⟩

set_option maxHeartbeats 1000000 in
set_option maxRecDepth 100000 in
theorem frac_any (D F : Nat) (least : Int) (top sg b : Nat) (w : World) (hb : b < 18446744073709551616) (hF : F ≤ 60) :
    Calls Try.prog 70 #[.agg #[.int .i64 (D : Int), .int .i64 (F : Int), .int .i64 least, .int .u64 (top : Int), .int .u64 (sg : Int)], .int .u64 (b : Int)] w fun e w' => e = .returned (.int .u64 ((b % 2 ^ F : Nat) : Int)) ∧ Below w.heap.size w w' := by
  have HW := Lib.hid (below_new w (.cells #[.int .i64 (D : Int), .int .i64 (F : Int), .int .i64 least, .int .u64 (top : Int), .int .u64 (sg : Int)] 60))
  have HK := Lib.hid (Box.new w 60 #[.int .i64 (D : Int), .int .i64 (F : Int), .int .i64 least, .int .u64 (top : Int), .int .u64 (sg : Int)])
  have hp : 2 ^ F ≤ 1152921504606846976 := Nat.pow_le_pow_right (n := 2) (by omega) hF
  have hp0 : 0 < 2 ^ F := two_pos F
  obtain ⟨M, hM⟩ : ∃ M, M = 2 ^ F - 1 := ⟨_, rfl⟩
  have e2 : bits BinOp.and IntKind.u64 (b : Int) (M : Int) = ((b % 2 ^ F : Nat) : Int) := by rw [hM]; exact and_low hb hF
  obtain ⟨r, hr⟩ : ∃ r, r = b % 2 ^ F := ⟨_, rfl⟩
  rw [← hr] at e2 ⊢
  have ep : ((2 : Int) ^ F) = ((2 ^ F : Nat) : Int) := by rw [Int.natCast_pow]; rfl
  have hsh : IntKind.u64.wrap (2 ^ F - 1) = (M : Int) := by rw [ep, IntWalk.u64_in _ (by omega)]; omega
  have hsh2 : IntKind.u64.wrap (IntKind.u64.wrap (2 ^ F) - 1) = (M : Int) := by rw [ep, IntWalk.u64_in ((2 ^ F : Nat) : Int) (by omega), IntWalk.u64_in _ (by omega)]; omega
  have hF1 : (F : Int) ≤ 60 := by omega
  clear hr hM hp hp0 ep
  go_enter Try.func70, Try.ntmps70
  go_wp2_with fail
  generalize w.alloc (.cells #[.int .i64 (D : Int), .int .i64 (F : Int), .int .i64 least, .int .u64 (top : Int), .int .u64 (sg : Int)] 60) = W at *
  have c1 : W.cell? ⟨w.heap.size, 1, none⟩ = some (.int .i64 (F : Int)) := by rw [HK.out.cell 1]; rfl
  go_wp2_with fail
  go_ret
  exact ⟨rfl, HW.out⟩

theorem double_any (w : World) : Calls Try.prog 35 #[] w fun e w' => e = .returned (.agg #[.int .i64 53, .int .i64 52, .int .i64 (-1074), .int .u64 2047, .int .u64 9223372036854775808]) ∧ Below w.heap.size w w' := by
  go_enter Try.func35, Try.ntmps35
  go_wp2_with fail
  refine bodyPost_ret (v := .agg #[.int .i64 53, .int .i64 52, .int .i64 (-1074), .int .u64 2047, .int .u64 9223372036854775808]) (by simp [results, Try.results35, go_sem]) rfl ⟨rfl, ?_⟩
  first
    | exact below_new w _
    | (repeat (refine Below.setCell ?_ (by show _ ≤ _; simp) _)
       exact below_new w _)
theorem single_any (w : World) : Calls Try.prog 32 #[] w fun e w' => e = .returned (.agg #[.int .i64 24, .int .i64 23, .int .i64 (-149), .int .u64 255, .int .u64 2147483648]) ∧ Below w.heap.size w w' := by
  go_enter Try.func32, Try.ntmps32
  go_wp2_with fail
  refine bodyPost_ret (v := .agg #[.int .i64 24, .int .i64 23, .int .i64 (-149), .int .u64 255, .int .u64 2147483648]) (by simp [results, Try.results32, go_sem]) rfl ⟨rfl, ?_⟩
  first
    | exact below_new w _
    | (repeat (refine Below.setCell ?_ (by show _ ≤ _; simp) _)
       exact below_new w _)
end Go.Proofs.Ytfkhingkmfapbaa
/- IsInf and Bits of the reference, by contracts. -/
namespace Go.Proofs.Ytfkhingkmfapbaa
open Go.RowKit

theorem sgnB_parts {E F sg r : Nat} (neg : Bool) (hs : sg = 2 ^ (E + F)) (hr : r < 2 ^ (E + F)) : sgnB neg sg r / 2 ^ F % 2 ^ E = r / 2 ^ F ∧ sgnB neg sg r % 2 ^ F = r % 2 ^ F ∧ sgnB neg sg r < 2 * 2 ^ (E + F) := by
  have hrq : r / 2 ^ F < 2 ^ E := by rw [Nat.div_lt_iff_lt_mul (two_pos F), ← Nat.pow_add]; exact hr
  cases neg
  · unfold sgnB
    rw [if_neg (by simp), Nat.mod_eq_of_lt hrq]
    exact ⟨rfl, rfl, by omega⟩
  · unfold sgnB
    have e := Nat.two_pow_add_eq_or_of_lt hr 1
    rw [Nat.mul_one] at e
    rw [if_pos rfl, hs, ← e]
    have e2 : 2 ^ (E + F) + r = r + 2 ^ E * 2 ^ F := by rw [Nat.pow_add]; omega
    refine ⟨?_, ?_, by omega⟩
    · rw [e2, Nat.add_mul_div_right _ _ (two_pos F), Nat.add_mod_right, Nat.mod_eq_of_lt hrq]
    · rw [e2, Nat.add_mul_mod_self_right]
theorem rung_le (F : Nat) (least : Int) (top num den : Nat) : rungQ F least top num den ≤ top * 2 ^ F := by
  unfold rungQ
  split
  · omega
  · exact Nat.min_le_right _ _
theorem pow_top {E F top : Nat} (ht : top = 2 ^ E - 1) {r : Nat} (hr : r ≤ top * 2 ^ F) : r < 2 ^ (E + F) := by
  have h1 := two_pos E
  have h2 := two_pos F
  have h3 : (top + 1) * 2 ^ F = 2 ^ (E + F) := by rw [ht, Nat.sub_add_cancel h1, Nat.pow_add]
  rw [Nat.add_mul, Nat.one_mul] at h3
  omega

set_option maxHeartbeats 1000000 in
set_option maxRecDepth 100000 in
theorem isInf_any (D F E : Nat) (least : Int) (top sg r : Nat) (neg : Bool) (w : World) (hF : F ≤ 52) (hE : E ≤ 11) (ht : top = 2 ^ E - 1) (hs : sg = 2 ^ (E + F)) (hr : r ≤ top * 2 ^ F) :
    Calls Try.prog 54 #[.agg #[.int .i64 (D : Int), .int .i64 (F : Int), .int .i64 least, .int .u64 (top : Int), .int .u64 (sg : Int)], .int .u64 ((sgnB neg sg r : Nat) : Int)] w fun e w' => e = .returned (.bool (decide (r = top * 2 ^ F))) ∧ Below w.heap.size w w' := by
  have hlt := pow_top ht hr
  obtain ⟨p1, p2, p3⟩ := sgnB_parts neg hs hlt
  have hb9 : sgnB neg sg r < 18446744073709551616 := by
    have : 2 ^ (E + F) ≤ 2 ^ 63 := Nat.pow_le_pow_right (by omega) (by omega)
    omega
  have htop9 : top < 2 ^ E := by have := two_pos E; omega
  have HT := Lib.hid ht
  have HW := Lib.hid (below_new w (.cells #[.int .i64 (D : Int), .int .i64 (F : Int), .int .i64 least, .int .u64 (top : Int), .int .u64 (sg : Int)] 60))
  have HK := Lib.hid (Box.new w 60 #[.int .i64 (D : Int), .int .i64 (F : Int), .int .i64 least, .int .u64 (top : Int), .int .u64 (sg : Int)])
  have XE := fun (W : World) => exp_any D F E least top sg (sgnB neg sg r) W hb9 (by omega) (by omega) ht
  have XF := fun (W : World) => frac_any D F least top sg (sgnB neg sg r) W hb9 (by omega)
  rw [p1] at XE
  rw [p2] at XF
  have XE := Lib.hid XE
  have XF := Lib.hid XF
  generalize sgnB neg sg r = b at *
  have S : Hid (∀ W w' : World, Hid (Box W 60 w.heap.size #[.int .i64 (D : Int), .int .i64 (F : Int), .int .i64 least, .int .u64 (top : Int), .int .u64 (sg : Int)]) → Below W.heap.size W w' → w'.cell? ⟨w.heap.size, 0, none⟩ = some (.int .i64 (D : Int)) ∧ w'.cell? ⟨w.heap.size, 1, none⟩ = some (.int .i64 (F : Int)) ∧ w'.cell? ⟨w.heap.size, 2, none⟩ = some (.int .i64 least) ∧ w'.cell? ⟨w.heap.size, 3, none⟩ = some (.int .u64 (top : Int)) ∧ w'.cell? ⟨w.heap.size, 4, none⟩ = some (.int .u64 (sg : Int))) := fun W w' hk hb => by
    have k := hk.out.later hb hk.out.lt
    exact ⟨by rw [k.cell 0]; rfl, by rw [k.cell 1]; rfl, by rw [k.cell 2]; rfl, by rw [k.cell 3]; rfl, by rw [k.cell 4]; rfl⟩
  by_cases hq : r = top * 2 ^ F
  · have e1 : r / 2 ^ F = top := by rw [hq, Nat.mul_div_cancel _ (two_pos F)]
    have e2 : r % 2 ^ F = 0 := by rw [hq, Nat.mul_mod_left]
    rw [e1] at XE
    rw [e2] at XF
    rw [decide_eq_true hq]
    have tt : ((top : Int) == (top : Int)) = true := by simp
    clear ht hs hr hlt p1 p2 p3 hq e1 e2 htop9 HT
    go_enter Try.func54, Try.ntmps54
    go_wp2_with fail
    generalize w.alloc (.cells #[.int .i64 (D : Int), .int .i64 (F : Int), .int .i64 least, .int .u64 (top : Int), .int .u64 (sg : Int)] 60) = W at *
    obtain ⟨c0, c1, c2, c3, c4⟩ := S.out W W HK (Below.refl _ _)
    go_region_held3 (fun w' => w'.cell? ⟨w.heap.size, 0, none⟩ = some (.int .i64 (D : Int)) ∧ w'.cell? ⟨w.heap.size, 1, none⟩ = some (.int .i64 (F : Int)) ∧ w'.cell? ⟨w.heap.size, 2, none⟩ = some (.int .i64 least) ∧ w'.cell? ⟨w.heap.size, 3, none⟩ = some (.int .u64 (top : Int)) ∧ w'.cell? ⟨w.heap.size, 4, none⟩ = some (.int .u64 (sg : Int)))
      (first | exact ⟨c0, c1, c2, c3, c4⟩ | exact S.out _ _ HK hb5 | exact S.out _ _ HK hb4)
      (first
        | (go_at_call 69; refine (XE.out _).mono ?_; rintro e' w4 ⟨rfl, hb4'⟩; have hb4 := undrew hb4')
        | (go_at_call 70; refine (XF.out _).mono ?_; rintro e' w5 ⟨rfl, hb5'⟩; have hb5 := hb4.trans (hb5'.mono hb4.size)))
    all_goals
      have R := Lib.hid (HW.out.trans (hb5.mono HW.out.size))
      clear hb4 hb4' hb5 hb5' c0 c1 c2 c3 c4
      go_wp2_with fail
      go_ret
      exact ⟨rfl, R.out⟩
  · obtain ⟨q, hqq⟩ : ∃ q, q = r / 2 ^ F := ⟨_, rfl⟩
    have hne : q ≠ top := by
      intro e
      apply hq
      have h1 := Nat.div_add_mod r (2 ^ F)
      rw [← hqq, e, Nat.mul_comm] at h1
      omega
    have tt : ((q : Int) == (top : Int)) = false := by simp; omega
    rw [← hqq] at XE
    rw [decide_eq_false hq]
    clear ht hs hr hlt p1 p2 p3 hq hqq hne htop9 HT
    go_enter Try.func54, Try.ntmps54
    go_wp2_with fail
    generalize w.alloc (.cells #[.int .i64 (D : Int), .int .i64 (F : Int), .int .i64 least, .int .u64 (top : Int), .int .u64 (sg : Int)] 60) = W at *
    obtain ⟨c0, c1, c2, c3, c4⟩ := S.out W W HK (Below.refl _ _)
    first
    | (go_region_with
        (first
        | (go_at_call 69; refine (XE.out _).mono ?_; rintro e' w4 ⟨rfl, hb4'⟩; have hb4 := undrew hb4'; obtain ⟨d0, d1, d2, d3, d4⟩ := S.out _ _ HK hb4)))
    | fail
    all_goals
      have R := Lib.hid (HW.out.trans (hb4.mono HW.out.size))
      clear hb4 hb4' c0 c1 c2 c3 c4
      go_wp2_with fail
      go_ret
      exact ⟨rfl, R.out⟩

theorem round_all (D F : Nat) (least : Int) (top sg num den : Nat) (neg : Bool) (vn vd : Value) (w : World) (hn : IsNat w vn num) (hd : IsNat w vd den) (h1 : den ≠ 0) (l1 : Num.len num ≤ 20000) (l2 : Num.len den ≤ 20000) (hD : D = F + 1) (hF : F ≤ 52) (le0 : -1100 ≤ least) (le1 : least ≤ 0) (ht : top ≤ 2047) (hs : sg < 18446744073709551616) :
    Calls Try.prog 53 #[.agg #[.int .i64 (D : Int), .int .i64 (F : Int), .int .i64 least, .int .u64 (top : Int), .int .u64 (sg : Int)], .bool neg, vn, vd, .int .i64 0] w fun e w' => e = .returned (.int .u64 ((sgnB neg sg (rungQ F least top num den) : Nat) : Int)) ∧ Below w.heap.size w w' := by
  by_cases h0 : num = 0
  · subst h0; exact round_zero D F least top sg den neg vn vd w hn hd hs
  · exact round_any D F least top sg num den neg vn vd w hn hd h0 h1 l1 l2 hD hF le0 le1 ht hs

set_option maxHeartbeats 1000000 in
set_option maxRecDepth 100000 in
theorem bits_any (D F E : Nat) (least : Int) (top sg num den : Nat) (neg : Bool) (r : Value) (w : World) (hr : RatioIs w r num den) (h1 : den ≠ 0) (l1 : Num.len num ≤ 20000) (l2 : Num.len den ≤ 20000) (hD : D = F + 1) (hF : F ≤ 52) (hE : E ≤ 11) (le0 : -1100 ≤ least) (le1 : least ≤ 0) (ht : top = 2 ^ E - 1) (hs : sg = 2 ^ (E + F)) :
    Calls Try.prog 31 #[r, .agg #[.int .i64 (D : Int), .int .i64 (F : Int), .int .i64 least, .int .u64 (top : Int), .int .u64 (sg : Int)], .bool neg] w fun e w' => e = .returned (.tuple #[.int .u64 ((sgnB neg sg (rungQ F least top num den) : Nat) : Int), .bool (decide (rungQ F least top num den = top * 2 ^ F))]) ∧ Below w.heap.size w w' := by
  obtain ⟨vn, vd, rfl, hn, hd⟩ := hr
  obtain ⟨An, cn, rfl, _, _⟩ := natLen_shape hn
  obtain ⟨Ad, cd, rfl, _, _⟩ := natLen_shape hd
  have HN := Lib.hid hn
  have HD := Lib.hid hd
  have htop9 : top ≤ 2047 := by
    have h2 : 2 ^ E ≤ 2 ^ 11 := Nat.pow_le_pow_right (by omega) hE
    omega
  have hs9 : sg < 18446744073709551616 := by
    have : 2 ^ (E + F) ≤ 2 ^ 63 := Nat.pow_le_pow_right (by omega) (by omega)
    omega
  have RA := Lib.hid (fun (W : World) (g : IsNat W (.slice An (Num.len num) cn) num) (g2 : IsNat W (.slice Ad (Num.len den) cd) den) => round_all D F least top sg num den neg _ _ W g g2 h1 l1 l2 hD hF le0 le1 htop9 hs9)
  have IA := Lib.hid (fun (W : World) => isInf_any D F E least top sg (rungQ F least top num den) neg W hF hE ht hs (rung_le _ _ _ _ _))
  clear hn hd h1 hD ht hs
  generalize rungQ F least top num den = q at *
  obtain ⟨inf, hinf⟩ : ∃ inf, inf = decide (q = top * 2 ^ F) := ⟨_, rfl⟩
  rw [← hinf] at IA ⊢
  clear hinf
  generalize sgnB neg sg q = b at *
  have hW : Below w.heap.size w ((w.alloc (.cells #[.slice An (Num.len num) cn, .slice Ad (Num.len den) cd] 31)).alloc (.cells #[.int .i64 (D : Int), .int .i64 (F : Int), .int .i64 least, .int .u64 (top : Int), .int .u64 (sg : Int)] 60)) :=
    ((Below.refl _ _).alloc (Nat.le_refl _) _).alloc (by simp) _
  have B0 : Box ((w.alloc (.cells #[.slice An (Num.len num) cn, .slice Ad (Num.len den) cd] 31)).alloc (.cells #[.int .i64 (D : Int), .int .i64 (F : Int), .int .i64 least, .int .u64 (top : Int), .int .u64 (sg : Int)] 60)) 31 w.heap.size #[.slice An (Num.len num) cn, .slice Ad (Num.len den) cd] := (Box.new w _ _).alloc _
  have B1 : Box ((w.alloc (.cells #[.slice An (Num.len num) cn, .slice Ad (Num.len den) cd] 31)).alloc (.cells #[.int .i64 (D : Int), .int .i64 (F : Int), .int .i64 least, .int .u64 (top : Int), .int .u64 (sg : Int)] 60)) 60 (w.heap.size + 1) #[.int .i64 (D : Int), .int .i64 (F : Int), .int .i64 least, .int .u64 (top : Int), .int .u64 (sg : Int)] := by
    have := Box.new (w.alloc (.cells #[.slice An (Num.len num) cn, .slice Ad (Num.len den) cd] 31)) 60 #[.int .i64 (D : Int), .int .i64 (F : Int), .int .i64 least, .int .u64 (top : Int), .int .u64 (sg : Int)]
    simpa using this
  have HW := Lib.hid hW
  have HB0 := Lib.hid B0
  have HB1 := Lib.hid B1
  clear hW B0 B1
  go_enter Try.func31, Try.ntmps31
  go_upto_region 1 with fail
  generalize (w.alloc (.cells #[.slice An (Num.len num) cn, .slice Ad (Num.len den) cd] 31)).alloc (.cells #[.int .i64 (D : Int), .int .i64 (F : Int), .int .i64 least, .int .u64 (top : Int), .int .u64 (sg : Int)] 60) = W at *
  have S : Hid (∀ w' : World, Below W.heap.size W w' → (w'.cell? ⟨w.heap.size + 1, 0, none⟩ = some (.int .i64 (D : Int)) ∧ w'.cell? ⟨w.heap.size + 1, 1, none⟩ = some (.int .i64 (F : Int)) ∧ w'.cell? ⟨w.heap.size + 1, 2, none⟩ = some (.int .i64 least) ∧ w'.cell? ⟨w.heap.size + 1, 3, none⟩ = some (.int .u64 (top : Int)) ∧ w'.cell? ⟨w.heap.size + 1, 4, none⟩ = some (.int .u64 (sg : Int))) ∧ w'.cell? ⟨w.heap.size, 0, none⟩ = some (.slice An (Num.len num) cn) ∧ w'.cell? ⟨w.heap.size, 1, none⟩ = some (.slice Ad (Num.len den) cd)) := fun w' hb => by
    have k := HB1.out.later hb HB1.out.lt
    have k0 := HB0.out.later hb HB0.out.lt
    exact ⟨⟨by rw [k.cell 0]; rfl, by rw [k.cell 1]; rfl, by rw [k.cell 2]; rfl, by rw [k.cell 3]; rfl, by rw [k.cell 4]; rfl⟩, by rw [k0.cell 0]; rfl, by rw [k0.cell 1]; rfl⟩
  obtain ⟨⟨c0, c1, c2, c3, c4⟩, e0, e1⟩ := S.out W (Below.refl _ _)
  go_wp2_with fail
  refine (RA.out _ (HN.out.later HW.out) (HD.out.later HW.out)).mono ?_
  rintro e w1 ⟨rfl, hb1⟩
  clear c0 c1 c2 c3 c4 e0 e1
  obtain ⟨⟨c0, c1, c2, c3, c4⟩, e0, e1⟩ := S.out w1 hb1
  have HB := Lib.hid hb1
  clear hb1
  go_wp2_with fail
  refine (IA.out _).mono ?_
  rintro e w2 ⟨rfl, hb2⟩
  have R := Lib.hid (HW.out.trans ((HB.out.trans (hb2.mono HB.out.size)).mono HW.out.size))
  clear hb2
  go_wp2_with fail
  go_ret2
  exact ⟨rfl, R.out⟩
theorem bits_double (num den : Nat) (neg : Bool) (r : Value) (w : World) (hr : RatioIs w r num den) (h1 : den ≠ 0) (l1 : Num.len num ≤ 20000) (l2 : Num.len den ≤ 20000) :
    Calls Try.prog 31 #[r, .agg #[.int .i64 53, .int .i64 52, .int .i64 (-1074), .int .u64 2047, .int .u64 9223372036854775808], .bool neg] w fun e w' => e = .returned (.tuple #[.int .u64 ((sgnB neg 9223372036854775808 (rungQ 52 (-1074) 2047 num den) : Nat) : Int), .bool (decide (rungQ 52 (-1074) 2047 num den = 2047 * 2 ^ 52))]) ∧ Below w.heap.size w w' :=
  bits_any 53 52 11 (-1074) 2047 9223372036854775808 num den neg r w hr h1 l1 l2 rfl (by omega) (by omega) (by omega) (by omega) (by decide) (by decide)
theorem bits_single (num den : Nat) (neg : Bool) (r : Value) (w : World) (hr : RatioIs w r num den) (h1 : den ≠ 0) (l1 : Num.len num ≤ 20000) (l2 : Num.len den ≤ 20000) :
    Calls Try.prog 31 #[r, .agg #[.int .i64 24, .int .i64 23, .int .i64 (-149), .int .u64 255, .int .u64 2147483648], .bool neg] w fun e w' => e = .returned (.tuple #[.int .u64 ((sgnB neg 2147483648 (rungQ 23 (-149) 255 num den) : Nat) : Int), .bool (decide (rungQ 23 (-149) 255 num den = 255 * 2 ^ 23))]) ∧ Below w.heap.size w w' :=
  bits_any 24 23 8 (-149) 255 2147483648 num den neg r w hr h1 l1 l2 rfl (by omega) (by omega) (by omega) (by omega) (by decide) (by decide)
end Go.Proofs.Ytfkhingkmfapbaa
