/- Plain facts on the slow road: where it begins and where it ends. No function of the program is walked here. -/
import Derived.Test.YtfndpecffhempaaDoorFbQ
import Derived.Test.YtfndpecffhempaaDoorRIntC
namespace Go.Proofs.YtfndpecffhempaaDoor
open Go.RowKit

theorem ten331 : ∃ a b : Nat, a = 331 ∧ b = 1105 ∧ 10 ^ a ≤ 2 ^ b := ⟨331, 1105, rfl, rfl, by decide +kernel⟩
theorem ten310 : ∃ a b : Nat, a = 310 ∧ b = 1101 ∧ 10 ^ a ≤ 2 ^ b := ⟨310, 1101, rfl, rfl, by decide +kernel⟩
theorem road_of {M N F : Nat} {least : Int} {l : List Nat} {dp : Int} (hM : M = 5000) (hN : N = 3000) (hL : Lead l) (hl : l.length ≤ 800) (d0 : -330 ≤ dp) (d1 : dp ≤ 310) (hF : F ≤ 52) (le0 : -1074 ≤ least) (le1 : least ≤ 0) :
    ∃ G Q, Road M N (sv l dp) F G least (lgQ (sv l dp) (10 ^ M)) Q ∧ App (gR M G Q) (sv l dp * 2 ^ N) l dp false 0 := by
  obtain ⟨b1, b2⟩ := sv_bounds hL (show (l.length : Int) ≤ 5000 + dp by omega)
  have hp : 0 < 10 ^ M := Nat.pow_pos (by omega)
  have hS0 : sv l dp ≠ 0 := by have := Nat.pow_pos (n := (5000 + dp - 1).toNat) (show 0 < 10 by omega); omega
  obtain ⟨g1, g2⟩ := lgQ_spec hS0 (show 10 ^ M ≠ 0 by omega)
  generalize hLL : lgQ (sv l dp) (10 ^ M) = L at *
  have hlo : -1105 ≤ L := by
    rcases Int.lt_or_le L (-1105) with h | h
    · exfalso
      apply g2
      refine geP_mono (show L + 1 ≤ -1105 by omega) ?_
      obtain ⟨a, b, ha, hb, hab⟩ := ten331
      rw [geP_iff (A := 0) (B := b) (by omega), Nat.pow_zero, Nat.mul_one]
      have e : 10 ^ M ≤ 10 ^ (5000 + dp - 1).toNat * 10 ^ a := by rw [← Nat.pow_add]; exact Nat.pow_le_pow_right (by omega) (by omega)
      exact Nat.le_trans e (Nat.mul_le_mul b1 hab)
    · exact h
  have hhi : L ≤ 1100 := by
    rcases Int.lt_or_le 1100 L with h | h
    · exfalso
      have h2 := geP_mono (show (1101 : Int) ≤ L by omega) g1
      obtain ⟨a, b, ha, hb, hab⟩ := ten310
      rw [geP_iff (A := b) (B := 0) (by omega), Nat.pow_zero, Nat.mul_one] at h2
      have e : 10 ^ (5000 + dp).toNat ≤ 10 ^ M * 10 ^ a := by rw [← Nat.pow_add]; exact Nat.pow_le_pow_right (by omega) (by omega)
      have := Nat.le_trans e (Nat.mul_le_mul_left (10 ^ M) hab)
      exact absurd (Nat.le_trans h2 (Nat.le_refl _)) (Nat.not_le.2 (Nat.lt_of_lt_of_le b2 this))
    · exact h
  rw [geP_iff (A := (L + 3000).toNat) (B := N) (by omega)] at g1
  rw [geP_iff (A := (L + 3001).toNat) (B := N) (by omega), Nat.not_le] at g2
  obtain ⟨Q, hQ⟩ : ∃ Q, Q = min (max (L - F) least - 1) L := ⟨_, rfl⟩
  have hw : 0 < 2 ^ (Q + 3000).toNat * 10 ^ M := Nat.mul_pos (two_pos _) hp
  obtain ⟨G, hG⟩ : ∃ G, G = sv l dp * 2 ^ N / (2 ^ (Q + 3000).toNat * 10 ^ M) := ⟨_, rfl⟩
  have hdm := Nat.div_add_mod (sv l dp * 2 ^ N) (2 ^ (Q + 3000).toNat * 10 ^ M)
  have hml := Nat.mod_lt (sv l dp * 2 ^ N) hw
  rw [← hG] at hdm
  have e0 : G * (2 ^ (Q + 3000).toNat * 10 ^ M) ≤ sv l dp * 2 ^ N := by rw [Nat.mul_comm]; omega
  have e1 : sv l dp * 2 ^ N < (G + 1) * (2 ^ (Q + 3000).toNat * 10 ^ M) := by rw [Nat.add_mul, Nat.one_mul, Nat.mul_comm G]; omega
  refine ⟨G, Q, ⟨hM, hN, g1, g2, hlo, hhi, hQ, e0, e1, hF, le0, le1⟩, ?_⟩
  have e3 : ((0 : Int) + 3000).toNat = N := by omega
  unfold App gR
  rw [e3]
  exact ⟨e0, Nat.le_refl _, by simp⟩

/-- the nearest whole number, of what is cut -/
theorem rhe_trunc {V T w c G : Nat} (hw : 0 < w) (hc : 0 < c) (h0 : G * w ≤ T) (h1 : T ≤ V) (h2 : V < (G + 1) * w) :
    rhe V (w * c * 2) = T / (w * c * 2) + if w * c < T % (w * c * 2) ∨ (T % (w * c * 2) = w * c ∧ (T ≠ V ∨ T / (w * c * 2) % 2 = 1)) then 1 else 0 := by
  have v1 : V / w = G := by
    apply Nat.le_antisymm
    · have := (Nat.div_lt_iff_lt_mul hw).2 h2; omega
    · exact (Nat.le_div_iff_mul_le hw).2 (Nat.le_trans h0 h1)
  have t1 : T / w = G := by
    apply Nat.le_antisymm
    · have := (Nat.div_lt_iff_lt_mul hw).2 (Nat.lt_of_le_of_lt h1 h2); omega
    · exact (Nat.le_div_iff_mul_le hw).2 h0
  have hh : 0 < w * c := Nat.mul_pos hw hc
  have v2 : V / (w * c) = G / c := by rw [← Nat.div_div_eq_div_mul, v1]
  have t2 : T / (w * c) = G / c := by rw [← Nat.div_div_eq_div_mul, t1]
  have vd := Nat.div_add_mod V (w * c)
  have td := Nat.div_add_mod T (w * c)
  have vm := Nat.mod_lt V hh
  have tm := Nat.mod_lt T hh
  unfold rhe
  rw [← Nat.div_div_eq_div_mul V, ← Nat.div_div_eq_div_mul T, Nat.mod_mul, Nat.mod_mul (x := T)]
  rw [v2] at vd ⊢
  rw [t2] at td ⊢
  generalize w * c = h at *
  generalize G / c = m at *
  generalize V % h = rv at *
  generalize T % h = rt at *
  have hle : rt ≤ rv := by omega
  rcases Nat.mod_two_eq_zero_or_one m with hm | hm
  · rw [hm, Nat.mul_zero, Nat.add_zero, Nat.add_zero, if_neg (by omega), if_neg (by omega)]
  · rw [hm, Nat.mul_one]
    congr 1
    by_cases hz : rt = 0
    · by_cases hv : rv = 0
      · have : T = V := by omega
        by_cases ho : m / 2 % 2 = 1
        · rw [if_pos (.inr ⟨by omega, ho⟩), if_pos (.inr ⟨by omega, .inr ho⟩)]
        · rw [if_neg (by omega), if_neg (by omega)]
      · rw [if_pos (.inl (by omega)), if_pos (.inr ⟨by omega, .inl (by omega)⟩)]
    · rw [if_pos (.inl (by omega)), if_pos (.inl (by omega))]
end Go.Proofs.YtfndpecffhempaaDoor
