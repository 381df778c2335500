/- Plain facts on the slow road: what a chain of shifts, cut to 800 digits, still tells of a number. No function of the program is walked here. -/
import Derived.Test.YtfndpecffhempaaDoorShC
import Derived.Test.YtfndpecffhempaaDoorFRP
namespace Go.Proofs.YtfndpecffhempaaDoor
open Go.RowKit

/-- l, dp, tr times 2^E is V, from below: exactly where tr is false; not below g -/
def App (g V : Nat) (l : List Nat) (dp : Int) (tr : Bool) (E : Int) : Prop :=
  g ≤ sv l dp * 2 ^ (E + 3000).toNat ∧ sv l dp * 2 ^ (E + 3000).toNat ≤ V ∧ tr = decide (sv l dp * 2 ^ (E + 3000).toNat ≠ V)

theorem app_cut {F : List Nat} {dp E : Int} {g V T : Nat} {tr : Bool} (hF : Digs F) (hl : (F.length : Int) ≤ 5000 + dp) (hdp : -4000 ≤ dp) (hT : sv F dp * 2 ^ (E + 3000).toNat = T) (hg : g ≤ T) (hV : T ≤ V) (htr : tr = decide (T ≠ V)) (grid : 2 ^ (E + 3000).toNat * 10 ^ (4200 + dp).toNat ∣ g) :
    App g V (tailL (F.take 800)) dp (tr || decide (valD (F.drop 800) ≠ 0)) E := by
  unfold App
  have h8 : ((F.take 800).length : Int) ≤ 5000 + dp := by rw [List.length_take]; omega
  rw [sv_tail h8]
  by_cases hlen : F.length ≤ 800
  · rw [List.take_of_length_le hlen, List.drop_of_length_le hlen, hT]
    refine ⟨hg, hV, ?_⟩
    rw [htr]; simp [valD]
  · have hs : valD F = valD (F.take 800) * 10 ^ (F.length - 800) + valD (F.drop 800) := by
      have := valD_append (F.take 800) (F.drop 800)
      rw [List.take_append_drop, List.length_drop] at this
      exact this
    have hr := valD_lt (digs_drop hF 800)
    rw [List.length_drop] at hr
    have e1 : sv F dp = (valD (F.take 800) * 10 ^ (F.length - 800) + valD (F.drop 800)) * 10 ^ (5000 + dp - F.length).toNat := by unfold sv; rw [hs]
    have e2 : sv (F.take 800) dp = valD (F.take 800) * 10 ^ (4200 + dp).toNat := by
      unfold sv; rw [List.length_take, Nat.min_eq_left (by omega)]; congr 2; omega
    have e3 : 10 ^ (4200 + dp).toNat = 10 ^ (F.length - 800) * 10 ^ (5000 + dp - F.length).toNat := by rw [← Nat.pow_add]; congr 1; omega
    have hz : 0 < 10 ^ (5000 + dp - F.length).toNat := Nat.pow_pos (by omega)
    have hp := two_pos (E + 3000).toNat
    rw [e1] at hT
    rw [e2]
    obtain ⟨c, rfl⟩ := grid
    rw [e3] at hg ⊢
    generalize valD (F.take 800) = X at *
    generalize valD (F.drop 800) = r at *
    generalize 10 ^ (F.length - 800) = W at *
    generalize 10 ^ (5000 + dp - F.length).toNat = Z at *
    generalize 2 ^ (E + 3000).toNat = P at *
    have hrz : r * Z < W * Z := Nat.mul_lt_mul_of_pos_right hr hz
    have hT2 : T = X * (W * Z) * P + r * Z * P := by rw [← hT, Nat.add_mul, Nat.add_mul, Nat.mul_assoc X]
    have hub : r * Z * P < W * Z * P := Nat.mul_lt_mul_of_pos_right hrz hp
    have hc : c ≤ X := by
      have h1 : P * (W * Z) * c < (X + 1) * (W * Z * P) := by
        rw [Nat.add_mul, Nat.one_mul, ← Nat.mul_assoc X (W * Z) P]
        omega
      rw [Nat.mul_comm P, Nat.mul_comm] at h1
      have := Nat.lt_of_mul_lt_mul_right h1
      omega
    have hg2 : P * (W * Z) * c ≤ X * (W * Z) * P := by
      have := Nat.mul_le_mul_right (W * Z * P) hc
      rw [Nat.mul_comm P, Nat.mul_comm _ c, Nat.mul_assoc X]; exact this
    refine ⟨hg2, by omega, ?_⟩
    by_cases hr0 : r = 0
    · subst hr0
      simp only [Nat.zero_mul, Nat.add_zero] at hT2
      rw [← hT2, htr]; simp
    · have hrp : 0 < r * Z * P := Nat.mul_pos (Nat.mul_pos (by omega) hz) hp
      rw [decide_eq_true hr0, decide_eq_true (by omega), Bool.or_true]
theorem grid_of {Q E dp : Int} {G M : Nat} (hM : M = 5000) (h1 : dp ≤ 800) (h2 : -4200 ≤ dp) (h3 : E + dp ≤ Q + 800) (h4 : 0 ≤ E + 3000) (h5 : 0 ≤ Q + 3000) : 2 ^ (E + 3000).toNat * 10 ^ (4200 + dp).toNat ∣ G * (2 ^ (Q + 3000).toNat * 10 ^ M) := by
  refine Nat.dvd_trans ?_ (Nat.dvd_mul_left _ _)
  have e1 : ∀ k : Nat, 10 ^ k = 2 ^ k * 5 ^ k := fun k => by rw [← Nat.mul_pow]
  rw [e1, e1, ← Nat.mul_assoc, ← Nat.mul_assoc, ← Nat.pow_add, ← Nat.pow_add]
  exact Nat.mul_dvd_mul (Nat.pow_dvd_pow 2 (by omega)) (Nat.pow_dvd_pow 5 (by omega))
theorem cond_of {L E dp : Int} {W M : Nat} (hM : M = 5000) (hV : W < 10 ^ M * 2 ^ (L + 3001).toNat) (h : 10 ^ (5000 + dp - 1).toNat * 2 ^ (E + 3000).toNat ≤ W) (d0 : -4000 ≤ dp) (hE : 0 ≤ E + 3000) (hL : 0 ≤ L + 3001) : (1 ≤ dp ∧ E + 3 * dp ≤ L + 3) ∨ (dp ≤ 1 ∧ 10 * dp ≤ 3 * L - 3 * E + 12) := by
  rcases Int.le_total 1 dp with hd | hd
  · left
    refine ⟨hd, ?_⟩
    have e1 : 10 ^ (5000 + dp - 1).toNat = 10 ^ M * 10 ^ (dp - 1).toNat := by rw [← Nat.pow_add]; congr 1; omega
    rw [e1, Nat.mul_assoc] at h
    have h1 := Nat.lt_of_mul_lt_mul_left (Nat.lt_of_le_of_lt h hV)
    have h2 : 2 ^ (3 * (dp - 1).toNat) ≤ 10 ^ (dp - 1).toNat := by rw [Nat.pow_mul]; exact Nat.pow_le_pow_left (by decide) _
    have h3 := Nat.lt_of_le_of_lt (Nat.mul_le_mul_right (2 ^ (E + 3000).toNat) h2) h1
    rw [← Nat.pow_add] at h3
    have := (Nat.pow_lt_pow_iff_right (a := 2) (by omega)).1 h3
    omega
  · right
    refine ⟨hd, ?_⟩
    obtain ⟨a, ha⟩ : ∃ a : Nat, 1 - dp = (a : Int) := ⟨(1 - dp).toNat, by omega⟩
    have e1 : 10 ^ M = 10 ^ (5000 + dp - 1).toNat * 10 ^ a := by rw [← Nat.pow_add]; congr 1; omega
    rw [e1, Nat.mul_assoc] at hV
    have h1 := Nat.lt_of_mul_lt_mul_left (Nat.lt_of_le_of_lt h hV)
    have h2 : (10 ^ a) ^ 3 ≤ 2 ^ (10 * a) := by
      rw [← Nat.pow_mul, Nat.mul_comm a 3, Nat.pow_mul, Nat.pow_mul]
      exact Nat.pow_le_pow_left (by decide) _
    have h3 : (2 ^ (E + 3000).toNat) ^ 3 < (10 ^ a * 2 ^ (L + 3001).toNat) ^ 3 := Nat.pow_lt_pow_left h1 (by omega)
    rw [Nat.mul_pow] at h3
    have h4 := Nat.lt_of_lt_of_le h3 (Nat.mul_le_mul_right _ h2)
    rw [← Nat.pow_mul, ← Nat.pow_mul, ← Nat.pow_add] at h4
    have := (Nat.pow_lt_pow_iff_right (a := 2) (by omega)).1 h4
    omega
theorem cond_fin {L E dp Q : Int} (h : (1 ≤ dp ∧ E + 3 * dp ≤ L + 3) ∨ (dp ≤ 1 ∧ 10 * dp ≤ 3 * L - 3 * E + 12)) (hE : E ≤ 0 ∨ E ≤ L + 100) (hL : -1105 ≤ L) (q1 : L - 53 ≤ Q) (q2 : -1075 ≤ Q ∨ L ≤ Q) : E + dp ≤ Q + 800 := by
  rcases h with ⟨h1, h2⟩ | ⟨h1, h2⟩ <;> rcases hE with hE | hE <;> rcases q2 with q2 | q2 <;> omega
end Go.Proofs.YtfndpecffhempaaDoor
