/- Plain facts for the laws of Shift: an exact shift, back and forth, two at once. No function of the program is walked here. -/
import Derived.Test.YtfndpecffhempaaDoorTid
namespace Go.Proofs.YtfndpecffhempaaDoor
open Go.RowKit

theorem shK_exact {l l' : List Nat} {dp dp' K : Int} {tr tr' : Bool} (h : ShK l dp tr K l' dp' tr') (hL : Tidy l dp) (hl : l.length ≤ 600) (k0 : -128 ≤ K) (k1 : K ≤ 128) (p0 : -1000 ≤ dp) (p1 : dp ≤ 1000) :
    tr' = tr ∧ l'.length ≤ l.length + 183 ∧ dp - 60 ≤ dp' ∧ dp' ≤ dp + 60 ∧ Tidy l' dp' ∧ sv l' dp' * 2 ^ (-K).toNat = sv l dp * 2 ^ K.toNat ∧ (l.length = 0 ↔ l'.length = 0) := by
  rcases h with ⟨h0, rfl, rfl, rfl⟩ | ⟨h0, hK, ks, hk, hs, hn, hc⟩
  · refine ⟨rfl, by omega, by omega, by omega, hL, ?_, Iff.rfl⟩
    rcases h0 with h0 | h0
    · have : sv l' dp' = 0 := by unfold sv; rw [List.eq_nil_of_length_eq_zero h0]; simp [valD]
      rw [this, Nat.zero_mul, Nat.zero_mul]
    · subst h0; rfl
  · rcases hL with ⟨e, _⟩ | ⟨hL, hz⟩
    · exact absurd e h0
    · have h3 : ks.length ≤ 3 := by omega
      obtain ⟨e1, e2, e3⟩ := hc.exact (by omega) (by omega)
      obtain ⟨g1, g2, g3, g4⟩ := hc.lead hL (by omega)
      refine ⟨e1, by omega, by omega, by omega, .inr ⟨g1, hc.last hz⟩, ?_, ?_⟩
      · rcases Int.lt_trichotomy K 0 with hK2 | hK2 | hK2
        · rw [decide_eq_false (show ¬ 0 < K by omega)] at e3
          simp only [Bool.false_eq_true, if_false] at e3
          rw [show (-K).toNat = ks.sum by omega, show K.toNat = 0 by omega, e3, Nat.pow_zero]
        · exact absurd hK2 hK
        · rw [decide_eq_true hK2] at e3
          simp only [if_true] at e3
          rw [show (-K).toNat = 0 by omega, show K.toNat = ks.sum by omega, ← e3, Nat.pow_zero]
      · have := g1.2.1
        constructor <;> intro <;> omega
theorem val_shifted {l l' : List Nat} {dp dp' : Int} {a b M : Nat} (hM : M = 5000) (h : (l.length : Int) ≤ 5000 + dp) (h' : (l'.length : Int) ≤ 5000 + dp') (e : sv l' dp' * b = sv l dp * a) : numV l' dp' * (denV l dp * b) = numV l dp * a * denV l' dp' := by
  have h1 := numV_sv hM h
  have h2 := numV_sv hM h'
  have hp : 0 < 10 ^ M := Nat.pow_pos (by omega)
  apply Nat.eq_of_mul_eq_mul_right hp
  generalize 10 ^ M = T at *
  generalize numV l dp = n1 at *
  generalize numV l' dp' = n2 at *
  generalize denV l dp = d1 at *
  generalize denV l' dp' = d2 at *
  generalize sv l dp = s1 at *
  generalize sv l' dp' = s2 at *
  calc n2 * (d1 * b) * T = (n2 * T) * (d1 * b) := by rw [Nat.mul_right_comm]
    _ = (s2 * b) * (d2 * d1) := by rw [h2]; simp only [Nat.mul_comm, Nat.mul_left_comm]
    _ = (s1 * d1) * (a * d2) := by rw [e]; simp only [Nat.mul_comm, Nat.mul_left_comm]
    _ = n1 * a * d2 * T := by rw [← h1]; simp only [Nat.mul_comm, Nat.mul_left_comm]
theorem tidy_same {l l' : List Nat} {dp dp' : Int} (h : Tidy l dp) (h' : Tidy l' dp') (b1 : l.length ≤ 800) (b2 : l'.length ≤ 800) (p1 : -2000 ≤ dp) (p2 : -2000 ≤ dp') (e0 : l.length = 0 ↔ l'.length = 0) (e : sv l dp = sv l' dp') : l = l' ∧ dp = dp' := by
  rcases h with ⟨h, hp⟩ | ⟨h, hz⟩
  · rcases h' with ⟨h', hp'⟩ | ⟨h', _⟩
    · exact ⟨by rw [List.eq_nil_of_length_eq_zero h, List.eq_nil_of_length_eq_zero h'], by rw [hp, hp']⟩
    · have := h'.2.1; have := e0.1 h; omega
  · rcases h' with ⟨h', _⟩ | ⟨h', hz'⟩
    · have := h.2.1; have := e0.2 h'; omega
    · exact sv_inj h h' hz hz' (by omega) (by omega) e
theorem shK_back {l l1 l2 : List Nat} {dp dp1 dp2 K : Int} {tr tr1 tr2 : Bool} (h1 : ShK l dp tr K l1 dp1 tr1) (h2 : ShK l1 dp1 tr1 (-K) l2 dp2 tr2) (hL : Tidy l dp) (hl : l.length ≤ 400) (k0 : -128 ≤ K) (k1 : K ≤ 128) (p0 : -400 ≤ dp) (p1 : dp ≤ 400) : l2 = l ∧ dp2 = dp := by
  obtain ⟨_, a2, a3, a4, a5, a6, a7⟩ := shK_exact h1 hL (by omega) k0 k1 (by omega) (by omega)
  obtain ⟨_, b2, b3, b4, b5, b6, b7⟩ := shK_exact h2 a5 (by omega) (by omega) (by omega) (by omega) (by omega)
  rw [Int.neg_neg] at b6
  refine tidy_same b5 hL (by omega) (by omega) (by omega) (by omega) (b7.symm.trans a7.symm) ?_
  have hp : 0 < 2 ^ K.toNat * 2 ^ (-K).toNat := Nat.mul_pos (Nat.pow_pos (by omega)) (Nat.pow_pos (by omega))
  apply Nat.eq_of_mul_eq_mul_right hp
  rw [← Nat.mul_assoc, b6, Nat.mul_right_comm, a6, Nat.mul_assoc]
theorem shK_sum {l l1 l2 l3 : List Nat} {dp dp1 dp2 dp3 a b : Int} {tr tr1 tr2 tr3 : Bool} (h1 : ShK l dp tr a l1 dp1 tr1) (h2 : ShK l1 dp1 tr1 b l2 dp2 tr2) (h3 : ShK l dp tr (a + b) l3 dp3 tr3) (hL : Tidy l dp) (hl : l.length ≤ 400) (a0 : -64 ≤ a) (a1 : a ≤ 64) (b0 : -64 ≤ b) (b1 : b ≤ 64) (p0 : -400 ≤ dp) (p1 : dp ≤ 400) : l2 = l3 ∧ dp2 = dp3 ∧ (l.length = 0 ↔ l2.length = 0) := by
  obtain ⟨_, x2, x3, x4, x5, x6, x7⟩ := shK_exact h1 hL (by omega) (by omega) (by omega) (by omega) (by omega)
  obtain ⟨_, y2, y3, y4, y5, y6, y7⟩ := shK_exact h2 x5 (by omega) (by omega) (by omega) (by omega) (by omega)
  obtain ⟨_, z2, z3, z4, z5, z6, z7⟩ := shK_exact h3 hL (by omega) (by omega) (by omega) (by omega) (by omega)
  have key : sv l2 dp2 = sv l3 dp3 := by
    have hp : 0 < 2 ^ ((-b).toNat + (-a).toNat + (a + b).toNat) := Nat.pow_pos (by omega)
    apply Nat.eq_of_mul_eq_mul_right hp
    have e : (-b).toNat + (-a).toNat + (a + b).toNat = (-(a + b)).toNat + (a.toNat + b.toNat) := by omega
    have l1' : sv l2 dp2 * 2 ^ ((-b).toNat + (-a).toNat + (a + b).toNat) = sv l dp * 2 ^ (a.toNat + b.toNat + (a + b).toNat) := by
      simp only [Nat.pow_add, ← Nat.mul_assoc]
      rw [y6, Nat.mul_right_comm (sv l1 dp1), x6]
    have r1' : sv l3 dp3 * 2 ^ ((-(a + b)).toNat + (a.toNat + b.toNat)) = sv l dp * 2 ^ (a.toNat + b.toNat + (a + b).toNat) := by
      rw [Nat.pow_add, ← Nat.mul_assoc, z6, Nat.mul_assoc, ← Nat.pow_add, Nat.add_comm (a + b).toNat]
    rw [l1', e, r1']
  have h23 := tidy_same y5 z5 (by omega) (by omega) (by omega) (by omega) ((y7.symm.trans x7.symm).trans z7) key
  exact ⟨h23.1, h23.2, x7.trans y7⟩
end Go.Proofs.YtfndpecffhempaaDoor
