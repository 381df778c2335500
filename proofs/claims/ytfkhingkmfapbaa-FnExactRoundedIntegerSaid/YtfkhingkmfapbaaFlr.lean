/- Floor and Nearest of the reference, by contracts: the whole part of a ratio and what is left; the nearest whole number, halves to even. -/
import Derived.Test.YtfkhingkmfapbaaNatB
import Derived.Test.YtfkhingkmfapbaaCmp
namespace Go.Proofs.Ytfkhingkmfapbaa
open Go.RowKit

/-- the bits from k on -/
def flN (num den k : Nat) : Nat := num / (den * 2 ^ k) * 2 ^ k
def flR (num den k : Nat) : Nat := num % (den * 2 ^ k)
theorem fl_eq (num den k : Nat) : flN num den k * den + flR num den k = num := by
  unfold flN flR
  have := Nat.div_add_mod num (den * 2 ^ k)
  rw [Nat.mul_assoc, Nat.mul_comm (2 ^ k) den, Nat.mul_comm (num / _)]
  exact this
theorem fl_split {num den k : Nat} (hd : 0 < den) : num / (den * 2 ^ k) = num / (den * 2 ^ (k + 1)) * 2 + flR num den (k + 1) / (den * 2 ^ k) ∧ flR num den k = flR num den (k + 1) % (den * 2 ^ k) := by
  unfold flR
  have hp : 0 < den * 2 ^ k := Nat.mul_pos hd (Nat.pow_pos (by omega))
  have e : den * 2 ^ (k + 1) = den * 2 ^ k * 2 := by rw [Nat.pow_succ, Nat.mul_assoc]
  rw [e]
  generalize den * 2 ^ k = D at *
  constructor
  · have h1 := Nat.div_div_eq_div_mul num D 2
    rw [← h1]
    have h2 : num % (D * 2) / D = num / D % 2 := by rw [Nat.mod_mul_right_div_self]
    rw [h2]
    omega
  · rw [Nat.mod_mul_right_mod]
theorem fl_hit {num den k : Nat} (hd : 0 < den) (h : den * 2 ^ k ≤ flR num den (k + 1)) : flN num den k = flN num den (k + 1) + 2 ^ k ∧ flR num den k = flR num den (k + 1) - den * 2 ^ k := by
  obtain ⟨h1, h2⟩ := fl_split (num := num) (k := k) hd
  have hp : 0 < den * 2 ^ k := Nat.mul_pos hd (Nat.pow_pos (by omega))
  have hlt : flR num den (k + 1) < den * 2 ^ k * 2 := by
    unfold flR; rw [Nat.pow_succ, ← Nat.mul_assoc]; exact Nat.mod_lt _ (by omega)
  have hq : flR num den (k + 1) / (den * 2 ^ k) = 1 := by
    rw [Nat.div_eq_of_lt_le] <;> omega
  constructor
  · unfold flN; rw [h1, hq, Nat.add_mul, Nat.one_mul, Nat.pow_succ, Nat.mul_assoc, Nat.mul_comm 2]
  · rw [h2, Nat.mod_eq_sub_mod h, Nat.mod_eq_of_lt (by omega)]
theorem fl_miss {num den k : Nat} (hd : 0 < den) (h : flR num den (k + 1) < den * 2 ^ k) : flN num den k = flN num den (k + 1) ∧ flR num den k = flR num den (k + 1) := by
  obtain ⟨h1, h2⟩ := fl_split (num := num) (k := k) hd
  constructor
  · unfold flN; rw [h1, Nat.div_eq_of_lt h, Nat.add_zero, Nat.pow_succ, Nat.mul_assoc, Nat.mul_comm 2]
  · rw [h2, Nat.mod_eq_of_lt h]
theorem fl_start {num den k : Nat} (h : num < den * 2 ^ k) : flN num den k = 0 ∧ flR num den k = num := by
  unfold flN flR; rw [Nat.div_eq_of_lt h, Nat.mod_eq_of_lt h, Nat.zero_mul]; exact ⟨rfl, rfl⟩
theorem fl_end (num den : Nat) : flN num den 0 = num / den ∧ flR num den 0 = num % den := by unfold flN flR; simp
theorem flN_mod (num den k : Nat) : flN num den k % 2 ^ k = 0 := by unfold flN; exact Nat.mul_mod_left _ _
theorem flN_le (num den k : Nat) : flN num den k * den ≤ num := by have := fl_eq num den k; omega
theorem flN_lt {num den k K : Nat} (_hd : 0 < den) (h : num < den * 2 ^ K) : flN num den k < 2 ^ K := by
  have h1 := flN_le num den k
  rcases Nat.lt_or_ge (flN num den k) (2 ^ K) with h2 | h2
  · exact h2
  · have := Nat.mul_le_mul_right den h2
    rw [Nat.mul_comm (2 ^ K)] at this
    omega
theorem flR_le (num den k : Nat) : flR num den k ≤ num := Nat.mod_le _ _

theorem or_bit {n j : Nat} (hn : n < 18446744073709551616) (hm : n % 2 ^ (j + 1) = 0) (hj : j < 64) : bits BinOp.or IntKind.u64 (n : Int) (IntKind.u64.wrap (2 ^ j)) = ((n + 2 ^ j : Nat) : Int) := by
  have h1 : 2 ^ j < 18446744073709551616 := by
    have : 2 ^ j < 2 ^ 64 := Nat.pow_lt_pow_right (by omega) hj
    omega
  have e : ((2 : Int) ^ j) = ((2 ^ j : Nat) : Int) := by simp
  rw [e, IntWalk.u64_in _ (by omega), u64_or_nat n _ hn h1, nat_join (j + 1) n (2 ^ j) hm (Nat.pow_lt_pow_right (by omega) (by omega))]
/-- Floor's answer -/
def GivesFloor (num den : Nat) (w : World) (e : Ending) (w' : World) : Prop := ∃ v, e = .returned (.tuple #[.int .u64 ((num / den : Nat) : Int), v]) ∧ IsNat w' v (num % den) ∧ Below w.heap.size w w'

set_option maxHeartbeats 1000000 in
set_option maxRecDepth 100000 in
theorem floor_any (vn vd : Value) (num den : Nat) (w : World) (hn : IsNat w vn num) (hd : IsNat w vd den) (h0 : 0 < den) (hlt : num < den * 2 ^ 64) (l1 : Num.len num ≤ 50000) (l2 : Num.len den ≤ 50000) :
    Calls Try.prog 46 #[.agg #[vn, vd]] w (GivesFloor num den w) := by
  obtain ⟨An, cn, rfl, _, _⟩ := natLen_shape hn
  obtain ⟨Ad, cd, rfl, _, _⟩ := natLen_shape hd
  have HN := Lib.hid (hn.alloc (.cells #[.slice An (Num.len num) cn, .slice Ad (Num.len den) cd] 31))
  have HD := Lib.hid (hd.alloc (.cells #[.slice An (Num.len num) cn, .slice Ad (Num.len den) cd] 31))
  have HB0 := Lib.hid (Box.new w 31 #[.slice An (Num.len num) cn, .slice Ad (Num.len den) cd])
  have HW := Lib.hid (below_new w (.cells #[.slice An (Num.len num) cn, .slice Ad (Num.len den) cd] 31))
  have H0 := Lib.hid h0
  have HLT := Lib.hid hlt
  clear hn hd h0 hlt
  go_enter Try.func46, Try.ntmps46
  go_wp2_with fail
  generalize w.alloc (.cells #[.slice An (Num.len num) cn, .slice Ad (Num.len den) cd] 31) = W at *
  have c0 : W.cell? ⟨w.heap.size, 0, none⟩ = some (.slice An (Num.len num) cn) := by rw [HB0.out.cell 0]; rfl
  go_quiet (fail)
  clear c0
  go_wp2_with fail
  obtain ⟨W0, hW0⟩ : ∃ W0 : World, W0 = W.drewN nq := ⟨_, rfl⟩
  have HBW : Hid (Below W.heap.size W W0) := by rw [hW0]; exact ⟨rfl, rfl, rfl, Nat.le_refl _, fun _ _ => rfl⟩
  rw [← hW0]
  clear hW0
  go_loopw [4, 5, 6] (fun n v i wr => ∃ k : Nat, k ≤ 64 ∧ i = .int .i64 ((k : Int) - 1) ∧ n = .int .u64 (flN num den k : Int) ∧ Hid (IsNat wr v (flR num den k)) ∧ Hid (Below W.heap.size W wr)) (fun _ _ i _ => (intOf i + 1).toNat)
  case atStart =>
    obtain ⟨s1, s2⟩ := fl_start HLT.out
    exact ⟨64, Nat.le_refl _, rfl, by rw [s1]; rfl, by show IsNat _ _ _; rw [s2]; exact HN.out.later HBW.out, HBW.out⟩
  case round =>
    obtain ⟨k, hk, rfl, rfl, hv, hb⟩ := hrel
    by_cases hk0 : k = 0
    · subst hk0
      go_wp2_with fail
      go_ret2
      obtain ⟨s1, s2⟩ := fl_end num den
      refine ⟨_, by rw [← s1]; rfl, by rw [← s2]; exact hv.out, HW.out.trans (hb.out.mono HW.out.size)⟩
    · obtain ⟨j, rfl⟩ : ∃ j, k = j + 1 := ⟨k - 1, by omega⟩
      have ej : ((j + 1 : Nat) : Int) - 1 = (j : Int) := by omega
      rw [ej]
      have c1 : wr.cell? ⟨w.heap.size, 1, none⟩ = some (.slice Ad (Num.len den) cd) := (hb.out.cell (p := ⟨w.heap.size, 1, none⟩) HB0.out.lt).trans (by rw [HB0.out.cell 1]; rfl)
      clear ej
      go_wp2_with fail
      refine (natShl_any _ den j _ (HD.out.later hb.out) (by omega) (by omega) (by omega)).mono ?_
      rintro e w2 ⟨v2, rfl, hv2, hb2⟩
      rw [Int.toNat_natCast] at hv2
      have HV2 := Lib.hid hv2
      have HB2 := Lib.hid (hb.out.trans (hb2.mono hb.out.size))
      have HR := Lib.hid (hv.out.later hb2)
      obtain ⟨A2, c2, rfl, _, _⟩ := natLen_shape hv2
      clear hv2 hb2 c1
      go_wp2_with fail
      refine (natCmp_any _ _ _ _ _ HR.out HV2.out).mono ?_
      rintro e w3 ⟨rfl, rfl⟩
      by_cases hc : flR num den (j + 1) < den * 2 ^ j
      · obtain ⟨s1, s2⟩ := fl_miss H0.out hc
        rw [cmpN_lt hc]
        have S1 := Lib.hid s1
        have S2 := Lib.hid s2
        clear s1 s2 hc
        go_wp2_with fail
        go_roundw
        case rel => exact ⟨j, by omega, rfl, by rw [S1.out], by show IsNat _ _ _; rw [S2.out]; exact HR.out, HB2.out⟩
        case measure => simp [intOf]
      · have hc' : den * 2 ^ j ≤ flR num den (j + 1) := by omega
        obtain ⟨s1, s2⟩ := fl_hit H0.out hc'
        have t1 : (0 : Int) ≤ cmpN (flR num den (j + 1)) (den * 2 ^ j) := by unfold cmpN; rw [if_neg hc]; split <;> decide
        have S1 := Lib.hid s1
        have S2 := Lib.hid s2
        have HC := Lib.hid hc'
        have hlen : Hid (Num.len (flR num den (j + 1)) ≤ 100000) := by have := Num.len_mono (flR_le num den (j + 1)); show _ ≤ _; omega
        clear s1 s2 hc hc'
        go_wp2_with fail
        refine (natSub_any _ _ _ _ _ HR.out HV2.out HC.out hlen.out).mono ?_
        rintro e w4 ⟨v4, rfl, hv4, hb4⟩
        rw [← S2.out] at hv4
        have HV4 := Lib.hid hv4
        have HB4 := Lib.hid (HB2.out.trans (hb4.mono HB2.out.size))
        clear hv4 hb4
        go_wp2_with fail
        go_roundw
        case rel =>
          refine ⟨j, by omega, rfl, ?_, HV4.out, HB4.out⟩
          rw [or_bit (flN_lt H0.out HLT.out) (flN_mod _ _ _) (by omega), S1.out]
        case measure => simp [intOf]

/-- the nearest whole number, halves to even -/
def nearUp (num den : Nat) : Bool := decide (den < num % den * 2) || (decide (num % den * 2 = den) && decide (num / den % 2 = 1))
def nearN (num den : Nat) : Nat := num / den + if nearUp num den then 1 else 0
theorem odd_bit64 {c : Nat} (h : c < 18446744073709551616) : (bits BinOp.and IntKind.u64 (c : Int) 1 == 1) = decide (c % 2 = 1) := by
  rw [show (1 : Int) = ((1 : Nat) : Int) from rfl, u64_and_nat c 1 h (by decide), Nat.and_one_is_mod]
  by_cases e : c % 2 = 1
  · rw [e]; rfl
  · have : c % 2 = 0 := by omega
    rw [this]; rfl
theorem div_lt_of {num den K : Nat} (h : num < den * 2 ^ K) : num / den < 2 ^ K := by
  rw [Nat.div_lt_iff_lt_mul]
  · rwa [Nat.mul_comm] at h
  · rcases Nat.eq_zero_or_pos den with rfl | h'
    · simp at h
    · exact h'

set_option maxHeartbeats 1000000 in
set_option maxRecDepth 100000 in
theorem nearest_any (vn vd : Value) (num den : Nat) (w : World) (hn : IsNat w vn num) (hd : IsNat w vd den) (h0 : 0 < den) (hlt : num < den * 2 ^ 63) (l1 : Num.len num ≤ 50000) (l2 : Num.len den ≤ 50000) :
    Calls Try.prog 19 #[.agg #[vn, vd]] w fun e w' => e = .returned (.int .u64 (nearN num den : Int)) ∧ Below w.heap.size w w' := by
  obtain ⟨An, cn, rfl, _, _⟩ := natLen_shape hn
  obtain ⟨Ad, cd, rfl, _, _⟩ := natLen_shape hd
  have HN := Lib.hid (hn.alloc (.cells #[.slice An (Num.len num) cn, .slice Ad (Num.len den) cd] 31))
  have HD := Lib.hid (hd.alloc (.cells #[.slice An (Num.len num) cn, .slice Ad (Num.len den) cd] 31))
  have HB0 := Lib.hid (Box.new w 31 #[.slice An (Num.len num) cn, .slice Ad (Num.len den) cd])
  have HW := Lib.hid (below_new w (.cells #[.slice An (Num.len num) cn, .slice Ad (Num.len den) cd] 31))
  have H0 := Lib.hid h0
  have hq := div_lt_of hlt
  have HLT : Hid (num < den * 2 ^ 64) := by
    show _ < _
    exact Nat.lt_of_lt_of_le hlt (Nat.mul_le_mul_left _ (Nat.pow_le_pow_right (by omega) (by omega)))
  clear hn hd h0 hlt
  go_enter Try.func19, Try.ntmps19
  go_wp2_with fail
  generalize w.alloc (.cells #[.slice An (Num.len num) cn, .slice Ad (Num.len den) cd] 31) = W at *
  refine (floor_any _ _ num den _ HN.out HD.out H0.out HLT.out l1 l2).mono ?_
  rintro e w2 ⟨v2, rfl, hv2, hb2⟩
  have HV2 := Lib.hid hv2
  have HB2 := Lib.hid hb2
  have hlen : Hid (Num.len (num % den) ≤ 100000) := by have := Num.len_mono (Nat.mod_le num den); show _ ≤ _; omega
  clear hv2 hb2
  have HNR : Hid (nearN num den = num / den + if nearUp num den then 1 else 0) := rfl
  have HUP : Hid (nearUp num den = (decide (den < num % den * 2) || (decide (num % den * 2 = den) && decide (num / den % 2 = 1)))) := rfl
  have hq1 : num / den < 9223372036854775808 := hq
  have HOD := Lib.hid (odd_bit64 (show num / den < 18446744073709551616 by omega))
  generalize num / den = q at *
  go_upto_region 2 with fail
  have c1 : w2.cell? ⟨w.heap.size, 1, none⟩ = some (.slice Ad (Num.len den) cd) := (HB2.out.cell (p := ⟨w.heap.size, 1, none⟩) HB0.out.lt).trans (by rw [HB0.out.cell 1]; rfl)
  go_cut [5] (fun s wx => s = .int .i64 (cmpN (num % den * 2) den) ∧ Hid (Below w2.heap.size w2 wx))
  case first =>
    go_region_held3 (fun w' => w'.cell? ⟨w.heap.size, 1, none⟩ = some (.slice Ad (Num.len den) cd))
      (first | exact c1 | exact d1)
      (first
        | (go_at_call 39; refine (natShl_any _ (num % den) 1 _ (HV2.out.drew) hlen.out (by omega) (by omega)).mono ?_; rintro e' w4 ⟨v4, rfl, hv4, hb4'⟩; have hb4 := undrew hb4'; have d1 := (hb4.cell (p := ⟨w.heap.size, 1, none⟩) (Nat.lt_of_lt_of_le HB0.out.lt HB2.out.size)).trans c1)
        | (go_at_call 29; refine (natCmp_any _ _ (num % den * 2) den _ (by exact hv4) ((HD.out.later HB2.out).later hb4)).mono ?_; rintro e' w6 ⟨rfl, rfl⟩))
    all_goals
      have R := Lib.hid hb4
      clear hv4 hb4 hb4' d1
      go_wp2_with fail
      go_meet
      exact ⟨rfl, R.out⟩
  case rest =>
    obtain ⟨rfl, hb⟩ := hcut
    have HBZ := Lib.hid (HW.out.trans ((HB2.out.trans (hb.out.mono HB2.out.size)).mono HW.out.size))
    clear c1
    have hod := HOD.out
    rcases Nat.lt_trichotomy (num % den * 2) den with h | h | h
    · have E : Hid (nearN num den = q) := by
        show _ = _
        rw [HNR.out, HUP.out, decide_eq_false (by omega), decide_eq_false (by omega)]; rfl
      rw [cmpN_lt h]
      clear h hod
      go_wp2_with fail
      go_ret
      exact ⟨ret_int (by rw [E.out]), HBZ.out⟩
    · rw [cmpN_eq h]
      by_cases ho : q % 2 = 1
      · have E : Hid (nearN num den = q + 1) := by
          show _ = _
          rw [HNR.out, HUP.out, decide_eq_false (by omega), decide_eq_true h, decide_eq_true ho]; rfl
        rw [decide_eq_true ho] at hod
        clear h ho
        go_wp2_with fail
        go_ret
        exact ⟨ret_int (by rw [E.out]; rfl), HBZ.out⟩
      · have E : Hid (nearN num den = q) := by
          show _ = _
          rw [HNR.out, HUP.out, decide_eq_false (by omega), decide_eq_true h, decide_eq_false ho]; rfl
        rw [decide_eq_false ho] at hod
        clear h ho
        go_wp2_with fail
        go_ret
        exact ⟨ret_int (by rw [E.out]), HBZ.out⟩
    · have E : Hid (nearN num den = q + 1) := by
        show _ = _
        rw [HNR.out, HUP.out, decide_eq_true h]; rfl
      rw [cmpN_gt h]
      clear h hod
      go_wp2_with fail
      go_ret
      exact ⟨ret_int (by rw [E.out]; rfl), HBZ.out⟩
end Go.Proofs.Ytfkhingkmfapbaa
