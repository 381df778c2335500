/- Plain facts on the exact roads of both formats: what fits is exact, what is too great is seen to be. No function of the program is walked here. -/
import Derived.Test.YtfkhingkmfapbaaExA
namespace Go.Proofs.Ytfkhingkmfapbaa
open Ieee Go

theorem reads64 (neg : Bool) {N a t : Nat} (he : N = a * 2 ^ t) (ha : a < 2 ^ 53) (hN : N < 2 ^ 120) : Reads double (w64 neg N 1) neg N := by
  refine reads_exact double_is neg he ha (by decide) ?_
  have h : N.log2 < 120 := by
    by_cases h0 : N = 0
    · subst h0; decide
    · exact (Nat.log2_lt h0).2 hN
  omega
theorem small64 (neg : Bool) {N : Nat} (h : N < 2 ^ 53) : Reads double (w64 neg N 1) neg N :=
  reads64 neg (a := N) (t := 0) (by simp) h (Nat.lt_of_lt_of_le h (by decide))
theorem ten64 (neg : Bool) {k : Nat} (h : k ≤ 22) : Reads double (w64 neg (10 ^ k) 1) neg (10 ^ k) := by
  refine reads64 neg (a := 5 ^ k) (t := k) ?_ ?_ ?_
  · rw [← Nat.mul_pow]
  · exact Nat.lt_of_le_of_lt (Nat.pow_le_pow_right (by omega) h) (by decide)
  · exact Nat.lt_of_le_of_lt (Nat.pow_le_pow_right (by omega) h) (by decide)
theorem great64 (neg : Bool) {N : Nat} (h : 10 ^ 15 < N) (hN : N < 2 ^ 120) : ∃ N', 10 ^ 15 < N' ∧ Reads double (w64 neg N 1) neg N' := by
  by_cases h1 : N < 2 ^ 53
  · exact ⟨N, h, small64 neg h1⟩
  · obtain ⟨N', h2, h3⟩ := reads_great double_is neg (N := N) (by omega) (by decide) (by
      have h : N.log2 < 120 := (Nat.log2_lt (by omega)).2 hN
      omega)
    exact ⟨N', Nat.lt_of_lt_of_le (by decide) h2, h3⟩
theorem gt64 {x : Nat} {neg : Bool} {N : Nat} (h : Reads double x neg N) : (double.order x (p64.getD 15 0) == some .gt) = (!neg && decide (10 ^ 15 < N)) := by
  rw [p64_is 15 (by decide), gt_reads h (ten64 false (k := 15) (by decide))]
  unfold sgI
  cases neg
  · simp only [Bool.false_eq_true, if_false, Bool.not_false, Bool.true_and]
    exact decide_eq_decide.2 (by omega)
  · simp only [Bool.false_eq_true, if_false, if_true, Bool.not_true, Bool.false_and, decide_eq_false_iff_not]
    omega
theorem lt64 {x : Nat} {neg : Bool} {N : Nat} (h : Reads double x neg N) : (double.order x low64v == some .lt) = (neg && decide (10 ^ 15 < N)) := by
  rw [low64, lt_reads h (ten64 true (k := 15) (by decide))]
  unfold sgI
  cases neg
  · simp only [Bool.false_eq_true, if_false, if_true, Bool.false_and, decide_eq_false_iff_not]
    omega
  · simp only [if_true, Bool.true_and]
    exact decide_eq_decide.2 (by omega)
theorem mul64 {x y : Nat} {s : Bool} {N K : Nat} (hx : Reads double x s N) (hy : Reads double y false K) : floatBits .mul .f64 x y = some (w64 s (N * K) 1) := by
  have := mul_reads double_is hx hy
  rw [Bool.xor_false] at this
  exact this
theorem quo64 {x y : Nat} {s : Bool} {N K : Nat} (hx : Reads double x s N) (hy : Reads double y false K) (hK : K ≠ 0) : floatBits .quo .f64 x y = some (w64 s N K) := by
  have := div_reads double_is hx hy hK
  rw [Bool.xor_false] at this
  exact this
theorem of_int64 (M : Nat) : floatOfInt .f64 (M : Int) = w64 false M 1 := by
  show double.nearest (decide ((M : Int) < 0)) (M : Int).natAbs 0 = _
  rw [decide_eq_false (by omega), Int.natAbs_natCast, nearest_rung double_is]
  unfold w64
  congr 2
  simp
theorem rung_lt64 (N K : Nat) : rungQ 52 (-1074) 2047 N K < double.signWeight := by
  have h : rungQ 52 (-1074) 2047 N K ≤ 2047 * 2 ^ 52 := by
    unfold rungQ
    split
    · omega
    · exact Nat.min_le_right _ _
  exact Nat.lt_of_le_of_lt h (by decide)
theorem neg64 (N K : Nat) : Op.negFloat .f64 (w64 false N K) = w64 true N K := neg_word (k := .f64) (rung_lt64 N K)
theorem w64_sgn (neg : Bool) (N K : Nat) : w64 neg N K = sgnB neg double.signWeight (rungQ 52 (-1074) 2047 N K) := (sgnB_word rfl neg (rung_lt64 N K)).symm

theorem reads32 (neg : Bool) {N a t : Nat} (he : N = a * 2 ^ t) (ha : a < 2 ^ 24) (hN : N < 2 ^ 120) : Reads single (w32 neg N 1) neg N := by
  refine reads_exact single_is neg he ha (by decide) ?_
  have h : N.log2 < 120 := by
    by_cases h0 : N = 0
    · subst h0; decide
    · exact (Nat.log2_lt h0).2 hN
  omega
theorem small32 (neg : Bool) {N : Nat} (h : N < 2 ^ 24) : Reads single (w32 neg N 1) neg N :=
  reads32 neg (a := N) (t := 0) (by simp) h (Nat.lt_of_lt_of_le h (by decide))
theorem ten32 (neg : Bool) {k : Nat} (h : k ≤ 10) : Reads single (w32 neg (10 ^ k) 1) neg (10 ^ k) := by
  refine reads32 neg (a := 5 ^ k) (t := k) ?_ ?_ ?_
  · rw [← Nat.mul_pow]
  · exact Nat.lt_of_le_of_lt (Nat.pow_le_pow_right (by omega) h) (by decide)
  · exact Nat.lt_of_le_of_lt (Nat.pow_le_pow_right (by omega) h) (by decide)
theorem great32 (neg : Bool) {N : Nat} (h : 10 ^ 7 < N) (hN : N < 2 ^ 120) : ∃ N', 10 ^ 7 < N' ∧ Reads single (w32 neg N 1) neg N' := by
  by_cases h1 : N < 2 ^ 24
  · exact ⟨N, h, small32 neg h1⟩
  · obtain ⟨N', h2, h3⟩ := reads_great single_is neg (N := N) (by omega) (by decide) (by
      have h : N.log2 < 120 := (Nat.log2_lt (by omega)).2 hN
      omega)
    exact ⟨N', Nat.lt_of_lt_of_le (by decide) h2, h3⟩
theorem gt32 {x : Nat} {neg : Bool} {N : Nat} (h : Reads single x neg N) : (single.order x (p32.getD 7 0) == some .gt) = (!neg && decide (10 ^ 7 < N)) := by
  rw [p32_is 7 (by decide), gt_reads h (ten32 false (k := 7) (by decide))]
  unfold sgI
  cases neg
  · simp only [Bool.false_eq_true, if_false, Bool.not_false, Bool.true_and]
    exact decide_eq_decide.2 (by omega)
  · simp only [Bool.false_eq_true, if_false, if_true, Bool.not_true, Bool.false_and, decide_eq_false_iff_not]
    omega
theorem lt32 {x : Nat} {neg : Bool} {N : Nat} (h : Reads single x neg N) : (single.order x low32v == some .lt) = (neg && decide (10 ^ 7 < N)) := by
  rw [low32, lt_reads h (ten32 true (k := 7) (by decide))]
  unfold sgI
  cases neg
  · simp only [Bool.false_eq_true, if_false, if_true, Bool.false_and, decide_eq_false_iff_not]
    omega
  · simp only [if_true, Bool.true_and]
    exact decide_eq_decide.2 (by omega)
theorem mul32 {x y : Nat} {s : Bool} {N K : Nat} (hx : Reads single x s N) (hy : Reads single y false K) : floatBits .mul .f32 x y = some (w32 s (N * K) 1) := by
  have := mul_reads single_is hx hy
  rw [Bool.xor_false] at this
  exact this
theorem quo32 {x y : Nat} {s : Bool} {N K : Nat} (hx : Reads single x s N) (hy : Reads single y false K) (hK : K ≠ 0) : floatBits .quo .f32 x y = some (w32 s N K) := by
  have := div_reads single_is hx hy hK
  rw [Bool.xor_false] at this
  exact this
theorem of_int32 (M : Nat) : floatOfInt .f32 (M : Int) = w32 false M 1 := by
  show single.nearest (decide ((M : Int) < 0)) (M : Int).natAbs 0 = _
  rw [decide_eq_false (by omega), Int.natAbs_natCast, nearest_rung single_is]
  unfold w32
  congr 2
  simp
theorem rung_lt32 (N K : Nat) : rungQ 23 (-149) 255 N K < single.signWeight := by
  have h : rungQ 23 (-149) 255 N K ≤ 255 * 2 ^ 23 := by
    unfold rungQ
    split
    · omega
    · exact Nat.min_le_right _ _
  exact Nat.lt_of_le_of_lt h (by decide)
theorem neg32 (N K : Nat) : Op.negFloat .f32 (w32 false N K) = w32 true N K := neg_word (k := .f32) (rung_lt32 N K)
theorem w32_sgn (neg : Bool) (N K : Nat) : w32 neg N K = sgnB neg single.signWeight (rungQ 23 (-149) 255 N K) := (sgnB_word rfl neg (rung_lt32 N K)).symm
theorem word_lt64 (neg : Bool) (N K : Nat) : w64 neg N K < 18446744073709551616 := Format.word_lt double neg (rung_lt64 N K)
theorem word_lt32 (neg : Bool) (N K : Nat) : w32 neg N K < 4294967296 := Format.word_lt single neg (rung_lt32 N K)
end Go.Proofs.Ytfkhingkmfapbaa
