/- Plain facts on the long division of the reference (Floor, Round). No function of the program is walked here. -/
import Derived.Test.YtfkhingkmfapbaaNatB
import Derived.Test.YtfkhingkmfapbaaCmp
namespace Go.Proofs.Ytfkhingkmfapbaa
open Go.RowKit

/-- the bits from k on -/
def flN (num den k : Nat) : Nat := num / (den * 2 ^ k) * 2 ^ k
def flR (num den k : Nat) : Nat := num % (den * 2 ^ k)
theorem fl_eq (num den k : Nat) : flN num den k * den + flR num den k = num := by
  unfold flN flR
  have := Nat.div_add_mod num (den * 2 ^ k)
  rw [Nat.mul_assoc, Nat.mul_comm (2 ^ k) den, Nat.mul_comm (num / _)]
  exact this
theorem fl_split {num den k : Nat} (hd : 0 < den) : num / (den * 2 ^ k) = num / (den * 2 ^ (k + 1)) * 2 + flR num den (k + 1) / (den * 2 ^ k) ∧ flR num den k = flR num den (k + 1) % (den * 2 ^ k) := by
  unfold flR
  have hp : 0 < den * 2 ^ k := Nat.mul_pos hd (Nat.pow_pos (by omega))
  have e : den * 2 ^ (k + 1) = den * 2 ^ k * 2 := by rw [Nat.pow_succ, Nat.mul_assoc]
  rw [e]
  generalize den * 2 ^ k = D at *
  constructor
  · have h1 := Nat.div_div_eq_div_mul num D 2
    rw [← h1]
    have h2 : num % (D * 2) / D = num / D % 2 := by rw [Nat.mod_mul_right_div_self]
    rw [h2]
    omega
  · rw [Nat.mod_mul_right_mod]
theorem fl_hit {num den k : Nat} (hd : 0 < den) (h : den * 2 ^ k ≤ flR num den (k + 1)) : flN num den k = flN num den (k + 1) + 2 ^ k ∧ flR num den k = flR num den (k + 1) - den * 2 ^ k := by
  obtain ⟨h1, h2⟩ := fl_split (num := num) (k := k) hd
  have hp : 0 < den * 2 ^ k := Nat.mul_pos hd (Nat.pow_pos (by omega))
  have hlt : flR num den (k + 1) < den * 2 ^ k * 2 := by
    unfold flR; rw [Nat.pow_succ, ← Nat.mul_assoc]; exact Nat.mod_lt _ (by omega)
  have hq : flR num den (k + 1) / (den * 2 ^ k) = 1 := by
    rw [Nat.div_eq_of_lt_le] <;> omega
  constructor
  · unfold flN; rw [h1, hq, Nat.add_mul, Nat.one_mul, Nat.pow_succ, Nat.mul_assoc, Nat.mul_comm 2]
  · rw [h2, Nat.mod_eq_sub_mod h, Nat.mod_eq_of_lt (by omega)]
theorem fl_miss {num den k : Nat} (hd : 0 < den) (h : flR num den (k + 1) < den * 2 ^ k) : flN num den k = flN num den (k + 1) ∧ flR num den k = flR num den (k + 1) := by
  obtain ⟨h1, h2⟩ := fl_split (num := num) (k := k) hd
  constructor
  · unfold flN; rw [h1, Nat.div_eq_of_lt h, Nat.add_zero, Nat.pow_succ, Nat.mul_assoc, Nat.mul_comm 2]
  · rw [h2, Nat.mod_eq_of_lt h]
theorem fl_start {num den k : Nat} (h : num < den * 2 ^ k) : flN num den k = 0 ∧ flR num den k = num := by
  unfold flN flR; rw [Nat.div_eq_of_lt h, Nat.mod_eq_of_lt h, Nat.zero_mul]; exact ⟨rfl, rfl⟩
theorem fl_end (num den : Nat) : flN num den 0 = num / den ∧ flR num den 0 = num % den := by unfold flN flR; simp
theorem flN_mod (num den k : Nat) : flN num den k % 2 ^ k = 0 := by unfold flN; exact Nat.mul_mod_left _ _
theorem flN_le (num den k : Nat) : flN num den k * den ≤ num := by have := fl_eq num den k; omega
theorem flN_lt {num den k K : Nat} (_hd : 0 < den) (h : num < den * 2 ^ K) : flN num den k < 2 ^ K := by
  have h1 := flN_le num den k
  rcases Nat.lt_or_ge (flN num den k) (2 ^ K) with h2 | h2
  · exact h2
  · have := Nat.mul_le_mul_right den h2
    rw [Nat.mul_comm (2 ^ K)] at this
    omega
theorem flR_le (num den k : Nat) : flR num den k ≤ num := Nat.mod_le _ _

theorem or_bit {n j : Nat} (hn : n < 18446744073709551616) (hm : n % 2 ^ (j + 1) = 0) (hj : j < 64) : bits BinOp.or IntKind.u64 (n : Int) (IntKind.u64.wrap (2 ^ j)) = ((n + 2 ^ j : Nat) : Int) := by
  have h1 : 2 ^ j < 18446744073709551616 := by
    have : 2 ^ j < 2 ^ 64 := Nat.pow_lt_pow_right (by omega) hj
    omega
  have e : ((2 : Int) ^ j) = ((2 ^ j : Nat) : Int) := by simp
  rw [e, IntWalk.u64_in _ (by omega), u64_or_nat n _ hn h1, nat_join (j + 1) n (2 ^ j) hm (Nat.pow_lt_pow_right (by omega) (by omega))]
theorem odd_bit64 {c : Nat} (h : c < 18446744073709551616) : (bits BinOp.and IntKind.u64 (c : Int) 1 == 1) = decide (c % 2 = 1) := by
  rw [show (1 : Int) = ((1 : Nat) : Int) from rfl, u64_and_nat c 1 h (by decide), Nat.and_one_is_mod]
  by_cases e : c % 2 = 1
  · rw [e]; rfl
  · have : c % 2 = 0 := by omega
    rw [this]; rfl
end Go.Proofs.Ytfkhingkmfapbaa
