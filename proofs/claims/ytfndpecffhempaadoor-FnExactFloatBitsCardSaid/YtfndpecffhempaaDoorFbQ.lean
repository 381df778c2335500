/- Plain facts on the slow road: the steps keep what is told of the number. No function of the program is walked here. -/
import Derived.Test.YtfndpecffhempaaDoorFbP
namespace Go.Proofs.YtfndpecffhempaaDoor
open Go.RowKit

/-- what is fixed on the road: the number S by 10^M; L its logarithm; Q the place down to which all must stay right; G its multiple -/
structure Road (M N S F G : Nat) (least L Q : Int) : Prop where
  hM : M = 5000
  hN : N = 3000
  lo : 10 ^ M * 2 ^ (L + 3000).toNat ≤ S * 2 ^ N
  hi : S * 2 ^ N < 10 ^ M * 2 ^ (L + 3001).toNat
  l0 : -1105 ≤ L
  l1 : L ≤ 1100
  hQ : Q = min (max (L - F) least - 1) L
  g0 : G * (2 ^ (Q + 3000).toNat * 10 ^ M) ≤ S * 2 ^ N
  g1 : S * 2 ^ N < (G + 1) * (2 ^ (Q + 3000).toNat * 10 ^ M)
  hF : F ≤ 52
  le0 : -1074 ≤ least
  le1 : least ≤ 0
theorem five_k {M r z : Nat} (h : M = 5000) (hz : z = (5000 - ((r + 1 : Nat) : Int)).toNat) (hr : r ≤ 900) : M = r + z + 1 := by omega
def gR (M G : Nat) (Q : Int) : Nat := G * (2 ^ (Q + 3000).toNat * 10 ^ M)

section
variable {M N S F0 G : Nat} {least L Q : Int} {l l' : List Nat} {dp dp' E : Int} {tr tr' : Bool}
theorem Road.q (R : Road M N S F0 G least L Q) : L - 53 ≤ Q ∧ (-1075 ≤ Q ∨ L ≤ Q) ∧ Q ≤ L ∧ -1200 ≤ Q := by
  have h := R.hQ
  have := R.l0; have := R.l1; have := R.hF; have := R.le0
  rw [Int.min_def, Int.max_def] at h
  split at h <;> split at h <;> omega
theorem Road.step (R : Road M N S F0 G least L Q) {FF : List Nat} {k1 k2 : Nat} (h : App (gR M G Q) (S * 2 ^ N) l dp tr E) (hF : Lead FF) (hlen : FF.length ≤ 900) (hsv : sv FF dp' * 2 ^ (k2) = sv l dp * 2 ^ k1) (E' : Int) (hE' : E' + k1 = E + k2) (e0 : -1200 ≤ E) (e1 : -1200 ≤ E') (hb : E' ≤ 0 ∨ E' ≤ L + 100) (d0 : -3000 ≤ dp') (d1 : dp' ≤ 800) :
    App (gR M G Q) (S * 2 ^ N) (tailL (FF.take 800)) dp' (tr || decide (valD (FF.drop 800) ≠ 0)) E' := by
  obtain ⟨h1, h2, h3⟩ := h
  obtain ⟨q1, q2, q3, q4⟩ := R.q
  have hT : sv FF dp' * 2 ^ (E' + 3000).toNat = sv l dp * 2 ^ (E + 3000).toNat := by
    apply Nat.eq_of_mul_eq_mul_right (two_pos (k2 + k1))
    have a1 : 2 ^ (E' + 3000).toNat * 2 ^ k1 = 2 ^ (E + 3000).toNat * 2 ^ k2 := by rw [← Nat.pow_add, ← Nat.pow_add]; congr 1; omega
    rw [Nat.pow_add]
    calc sv FF dp' * 2 ^ (E' + 3000).toNat * (2 ^ k2 * 2 ^ k1) = (sv FF dp' * 2 ^ k2) * (2 ^ (E' + 3000).toNat * 2 ^ k1) := by ac_rfl
      _ = sv l dp * 2 ^ (E + 3000).toNat * (2 ^ k2 * 2 ^ k1) := by rw [hsv, a1]; ac_rfl
  have hsb := (sv_bounds hF (show (FF.length : Int) ≤ 5000 + dp' by omega)).1
  have hcond := cond_of (W := S * 2 ^ N) R.hM R.hi (Nat.le_trans (Nat.mul_le_mul_right _ hsb) (by rw [hT]; exact h2)) (show -4000 ≤ dp' by omega) (by omega) (by have := R.l0; omega)
  have hfin := cond_fin hcond hb R.l0 q1 q2
  exact app_cut hF.1 (by omega) (by omega) hT h1 h2 h3 (grid_of R.hM d1 (by omega) hfin (by omega) (by omega))
theorem Road.chain (R : Road M N S F0 G least L Q) (left : Bool) (ks : List Nat) : ∀ {l l' : List Nat} {dp dp' E : Int} {tr tr' : Bool}, ShC left ks l dp tr l' dp' tr' → App (gR M G Q) (S * 2 ^ N) l dp tr E → l.length ≤ 800 → -1200 ≤ E → -1200 ≤ E - (if left then (ks.sum : Int) else -(ks.sum : Int)) → (E - (if left then 0 else -(ks.sum : Int)) ≤ 0 ∨ E - (if left then 0 else -(ks.sum : Int)) ≤ L + 100) → -2000 + 20 * (ks.length : Int) ≤ dp → dp + 20 * (ks.length : Int) ≤ 800 →
    App (gR M G Q) (S * 2 ^ N) l' dp' tr' (E - (if left then (ks.sum : Int) else -(ks.sum : Int))) := by
  induction ks with
  | nil =>
    intro l l' dp dp' E tr tr' h ha _ _ _ _ _ _
    obtain ⟨rfl, rfl, rfl⟩ := h
    cases left <;> simpa using ha
  | cons k ks ih =>
    intro l l' dp dp' E tr tr' h ha hl e0 e1 hb d0 d1
    obtain ⟨l1, dp1, tr1, hp, hc⟩ := h
    have hlen1 := hp.lead.2.1
    obtain ⟨FF, hF, hFl, rfl, hsv, rfl, p1, p2⟩ := hp
    rw [List.length_cons] at d0 d1
    rw [List.sum_cons] at e1 hb ⊢
    cases left
    · simp only [Bool.false_eq_true, if_false] at *
      have h1 := R.step (k1 := 0) (k2 := k) (E := E) ha hF (by omega) (by rw [hsv]) (E + k) (by omega) e0 (by omega) (by omega) (by omega) (by omega)
      have h2 := ih hc h1 hlen1 (by omega) (by omega) (by omega) (by omega) (by omega)
      have e : E - -((k + ks.sum : Nat) : Int) = E + k - -(ks.sum : Int) := by omega
      rw [e]; exact h2
    · simp only [if_true] at *
      have h1 := R.step (k1 := k) (k2 := 0) (E := E) ha hF (by omega) (by rw [← hsv]) (E - k) (by omega) e0 (by omega) (by omega) (by omega) (by omega)
      have h2 := ih hc h1 hlen1 (by omega) (by omega) (by omega) (by omega) (by omega)
      have e : E - ((k + ks.sum : Nat) : Int) = E - k - (ks.sum : Int) := by omega
      rw [e]; exact h2
theorem Road.shift (R : Road M N S F0 G least L Q) {K : Int} (h : ShK l dp tr K l' dp' tr') (ha : App (gR M G Q) (S * 2 ^ N) l dp tr E) (hL : Lead l) (hl : l.length ≤ 800) (k0 : -1140 ≤ K) (k1 : K ≤ 1140) (e0 : -1200 ≤ E) (e1 : -1200 ≤ E - K) (b0 : E ≤ 0 ∨ E ≤ L + 100) (b1 : E - K ≤ 0 ∨ E - K ≤ L + 100) (d0 : -1500 ≤ dp) (d1 : dp ≤ 400) :
    App (gR M G Q) (S * 2 ^ N) l' dp' tr' (E - K) ∧ Lead l' ∧ l'.length ≤ 800 ∧ dp - 20 * (K.natAbs / 60 + 1 : Nat) ≤ dp' ∧ dp' ≤ dp + 20 * (K.natAbs / 60 + 1 : Nat) := by
  rcases h with ⟨h0, rfl, rfl, rfl⟩ | ⟨h0, hK, ks, hk, hs, hn, hc⟩
  · rcases h0 with h0 | h0
    · have := hL.2.1; omega
    · subst h0; exact ⟨by simpa using ha, hL, hl, by omega, by omega⟩
  · obtain ⟨g1, g2, g3, g4⟩ := hc.lead hL hl
    refine ⟨?_, g1, g2, by omega, by omega⟩
    have := R.chain _ ks hc ha hl e0
    rcases Int.lt_trichotomy K 0 with hK2 | hK2 | hK2
    · rw [decide_eq_false (show ¬ 0 < K by omega)] at this
      simp only [Bool.false_eq_true, if_false] at this
      have h1 := this (by omega) (by omega) (by omega) (by omega)
      rw [show E - K = E - -(ks.sum : Int) by omega]; exact h1
    · exact absurd hK2 hK
    · rw [decide_eq_true hK2] at this
      simp only [if_true] at this
      have h1 := this (by omega) (by omega) (by omega) (by omega)
      rw [show E - K = E - (ks.sum : Int) by omega]; exact h1
theorem sv_cut_le {FF : List Nat} {dp : Int} (h : (FF.length : Int) ≤ 5000 + dp) : sv (tailL (FF.take 800)) dp ≤ sv FF dp := by
  rw [sv_tail (by rw [List.length_take]; omega)]
  by_cases hl : FF.length ≤ 800
  · rw [List.take_of_length_le hl]; exact Nat.le_refl _
  · have hs : valD FF = valD (FF.take 800) * 10 ^ (FF.length - 800) + valD (FF.drop 800) := by
      have := valD_append (FF.take 800) (FF.drop 800)
      rw [List.take_append_drop, List.length_drop] at this
      exact this
    unfold sv
    have e : 10 ^ (5000 + dp - ((FF.take 800).length : Int)).toNat = 10 ^ (FF.length - 800) * 10 ^ (5000 + dp - FF.length).toNat := by
      rw [List.length_take, Nat.min_eq_left (by omega), ← Nat.pow_add]; congr 1; omega
    rw [e, ← Nat.mul_assoc]
    exact Nat.mul_le_mul_right _ (by omega)
theorem shC_left_le (ks : List Nat) : ∀ {l l' : List Nat} {dp dp' : Int} {tr tr' : Bool}, ShC true ks l dp tr l' dp' tr' → l.length ≤ 800 → -3000 + 20 * (ks.length : Int) ≤ dp → sv l' dp' ≤ sv l dp * 2 ^ ks.sum := by
  induction ks with
  | nil => intro l l' dp dp' tr tr' h _ _; obtain ⟨rfl, rfl, rfl⟩ := h; simp
  | cons k ks ih =>
    intro l l' dp dp' tr tr' h hl d0
    obtain ⟨l1, dp1, tr1, hp, hc⟩ := h
    have hlen1 := hp.lead.2.1
    obtain ⟨FF, hF, hFl, rfl, hsv, rfl, p1, p2⟩ := hp
    simp only [if_true] at hsv
    rw [List.length_cons] at d0
    have h1 := ih hc hlen1 (by omega)
    have h2 := sv_cut_le (FF := FF) (dp := dp1) (by omega)
    rw [List.sum_cons, Nat.pow_add, ← Nat.mul_assoc, ← hsv, Nat.mul_one]
    exact Nat.le_trans h1 (Nat.mul_le_mul_right _ h2)
/-- a number below 1 that is moved left and stays below 1 -/
theorem left_dp {n : Nat} (h : ShK l dp tr (n : Int) l' dp' tr') (hn : 1 ≤ n) (hn2 : n ≤ 1000) (hL : Lead l) (hl : l.length ≤ 800) (d0 : -1500 ≤ dp) (d1 : dp ≤ 1500) (hM : M = 5000) (hlt : sv l dp * 2 ^ n < 10 ^ M) : dp' ≤ 0 := by
  rcases h with ⟨h0, rfl, rfl, rfl⟩ | ⟨h0, hK, ks, hk, hs, hnn, hc⟩
  · rcases h0 with h0 | h0
    · have := hL.2.1; omega
    · omega
  · rw [decide_eq_true (show (0 : Int) < (n : Int) by omega)] at hc
    obtain ⟨g1, g2, g3, g4⟩ := hc.lead hL hl
    have h1 := shC_left_le ks hc hl (by omega)
    rw [show ks.sum = n by omega] at h1
    have h2 := (sv_bounds g1 (show (l'.length : Int) ≤ 5000 + dp' by omega)).1
    have h3 := Nat.lt_of_le_of_lt (Nat.le_trans h2 h1) hlt
    have := (Nat.pow_lt_pow_iff_right (a := 10) (by omega)).1 h3
    omega
theorem Road.g_ge (R : Road M N S F0 G least L Q) : 10 ^ M * 2 ^ (L + 3000).toNat ≤ gR M G Q := by
  obtain ⟨q1, q2, q3, q4⟩ := R.q
  have h0 := R.l0
  have e : 2 ^ (L + 3000).toNat = 2 ^ (L - Q).toNat * 2 ^ (Q + 3000).toNat := by rw [← Nat.pow_add]; congr 1; omega
  have h1 := Nat.lt_of_le_of_lt R.lo R.g1
  have e2 : 10 ^ M * 2 ^ (L + 3000).toNat = 2 ^ (L - Q).toNat * (2 ^ (Q + 3000).toNat * 10 ^ M) := by rw [e]; ac_rfl
  rw [e2] at h1 ⊢
  have := Nat.lt_of_mul_lt_mul_right h1
  exact Nat.mul_le_mul_right _ (by omega)
theorem Road.e_gt (R : Road M N S F0 G least L Q) (ha : App (gR M G Q) (S * 2 ^ N) l dp tr E) (hL : Lead l) (hl : l.length ≤ 800) (d0 : -4000 ≤ dp) (d1 : dp ≤ 0) : L < E := by
  have h1 := Nat.le_trans R.g_ge ha.1
  have h2 := (sv_bounds hL (show (l.length : Int) ≤ 5000 + dp by omega)).2
  have h3 : 10 ^ (5000 + dp).toNat ≤ 10 ^ M := Nat.pow_le_pow_right (by omega) (by have := R.hM; omega)
  have h4 := Nat.lt_of_le_of_lt h1 (Nat.mul_lt_mul_of_pos_right (Nat.lt_of_lt_of_le h2 h3) (two_pos (E + 3000).toNat))
  have h5 := (Nat.pow_lt_pow_iff_right (a := 2) (by omega)).1 (Nat.lt_of_mul_lt_mul_left h4)
  have := R.l0
  omega
theorem Road.e_le (R : Road M N S F0 G least L Q) (ha : App (gR M G Q) (S * 2 ^ N) l dp tr E) (hL : Lead l) (hl : l.length ≤ 800) (d1 : 1 ≤ dp) (e0 : -1200 ≤ E) : E ≤ L := by
  have h1 := (sv_bounds hL (show (l.length : Int) ≤ 5000 + dp by omega)).1
  rcases cond_of R.hM R.hi (Nat.le_trans (Nat.mul_le_mul_right _ h1) ha.2.1) (by omega) (by omega) (by have := R.l0; omega) with h | h <;> omega
theorem Road.e_eq (R : Road M N S F0 G least L Q) (ha : App (gR M G Q) (S * 2 ^ N) l dp tr E) (hL : Lead l) (hl : l.length ≤ 800) (d0 : dp = 0) (h5 : 53 ≤ nth l 0) (e0 : -1200 ≤ E) : E = L + 1 := by
  have hgt := R.e_gt ha hL hl (by omega) (by omega)
  have h1 := Nat.lt_of_le_of_lt ha.2.1 R.hi
  have h2 : 10 ^ M ≤ 2 * sv l dp := by
    obtain ⟨c, r, rfl⟩ : ∃ c r, l = c :: r := by
      cases l with
      | nil => have := hL.2.1; simp at this
      | cons c r => exact ⟨c, r, rfl⟩
    have hc : 53 ≤ c := by simpa [nth] using h5
    unfold sv
    rw [valD_cons, d0, Int.add_zero]
    have hlr : (c :: r).length = r.length + 1 := List.length_cons
    obtain ⟨z, hz⟩ : ∃ z, z = (5000 - ((c :: r).length : Int)).toNat := ⟨_, rfl⟩
    rw [← hz]
    have e : 10 ^ M = 10 * (10 ^ r.length * 10 ^ z) := by
      have hMz : M = r.length + z + 1 := by
        have h6 := R.hM
        have h7 : r.length ≤ 900 := by omega
        rw [hlr] at hz
        exact five_k h6 hz h7
      rw [hMz, Nat.pow_succ, Nat.pow_add, Nat.mul_comm]
    rw [e]
    generalize 10 ^ z = Z
    generalize 10 ^ r.length = Y
    have h3 : 5 * Y ≤ (c - 48) * Y := Nat.mul_le_mul_right _ (by omega)
    have h4 := Nat.mul_le_mul_right Z (show 5 * Y ≤ (c - 48) * Y + valD r by omega)
    rw [Nat.mul_assoc] at h4
    omega
  have h3 : 10 ^ M * 2 ^ (E + 3000).toNat < 10 ^ M * 2 ^ ((L + 3001).toNat + 1) := by
    have := Nat.mul_le_mul_right (2 ^ (E + 3000).toNat) h2
    rw [Nat.mul_assoc] at this
    rw [Nat.pow_succ, ← Nat.mul_assoc]
    omega
  have h4 := (Nat.pow_lt_pow_iff_right (a := 2) (by omega)).1 (Nat.lt_of_mul_lt_mul_left h3)
  have := R.l0
  omega
end
end Go.Proofs.YtfndpecffhempaaDoor
