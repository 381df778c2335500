/- Plain facts on the slow road: what a chain of shifts, cut to 800 digits, still tells of a number. No function of the program is walked here. -/
import Derived.Test.YtfndpecffhempaaDoorShC
import Derived.Test.YtfndpecffhempaaDoorFRP
import Derived.Test.YtfndpecffhempaaDoorRIntC

namespace Go.Proofs.YtfndpecffhempaaDoor
open Go.RowKit

/-- l, dp, tr times 2^E is V, from below: exactly where tr is false; not below g -/
def App (g V : Nat) (l : List Nat) (dp : Int) (tr : Bool) (E : Int) : Prop :=
  g ≤ sv l dp * 2 ^ (E + 3000).toNat ∧ sv l dp * 2 ^ (E + 3000).toNat ≤ V ∧ tr = decide (sv l dp * 2 ^ (E + 3000).toNat ≠ V)

theorem app_cut {F : List Nat} {dp E : Int} {g V T : Nat} {tr : Bool} (hF : Digs F) (hl : (F.length : Int) ≤ 5000 + dp) (hdp : -4000 ≤ dp) (hT : sv F dp * 2 ^ (E + 3000).toNat = T) (hg : g ≤ T) (hV : T ≤ V) (htr : tr = decide (T ≠ V)) (grid : 2 ^ (E + 3000).toNat * 10 ^ (4200 + dp).toNat ∣ g) :
    App g V (tailL (F.take 800)) dp (tr || decide (valD (F.drop 800) ≠ 0)) E := by
  unfold App
  have h8 : ((F.take 800).length : Int) ≤ 5000 + dp := by rw [List.length_take]; omega
  rw [sv_tail h8]
  by_cases hlen : F.length ≤ 800
  · rw [List.take_of_length_le hlen, List.drop_of_length_le hlen, hT]
    refine ⟨hg, hV, ?_⟩
    rw [htr]; simp [valD]
  · have hs : valD F = valD (F.take 800) * 10 ^ (F.length - 800) + valD (F.drop 800) := by
      have := valD_append (F.take 800) (F.drop 800)
      rw [List.take_append_drop, List.length_drop] at this
      exact this
    have hr := valD_lt (digs_drop hF 800)
    rw [List.length_drop] at hr
    have e1 : sv F dp = (valD (F.take 800) * 10 ^ (F.length - 800) + valD (F.drop 800)) * 10 ^ (5000 + dp - F.length).toNat := by unfold sv; rw [hs]
    have e2 : sv (F.take 800) dp = valD (F.take 800) * 10 ^ (4200 + dp).toNat := by
      unfold sv; rw [List.length_take, Nat.min_eq_left (by omega)]; congr 2; omega
    have e3 : 10 ^ (4200 + dp).toNat = 10 ^ (F.length - 800) * 10 ^ (5000 + dp - F.length).toNat := by rw [← Nat.pow_add]; congr 1; omega
    have hz : 0 < 10 ^ (5000 + dp - F.length).toNat := Nat.pow_pos (by omega)
    have hp := two_pos (E + 3000).toNat
    rw [e1] at hT
    rw [e2]
    obtain ⟨c, rfl⟩ := grid
    rw [e3] at hg ⊢
    generalize valD (F.take 800) = X at *
    generalize valD (F.drop 800) = r at *
    generalize 10 ^ (F.length - 800) = W at *
    generalize 10 ^ (5000 + dp - F.length).toNat = Z at *
    generalize 2 ^ (E + 3000).toNat = P at *
    have hrz : r * Z < W * Z := Nat.mul_lt_mul_of_pos_right hr hz
    have hT2 : T = X * (W * Z) * P + r * Z * P := by rw [← hT, Nat.add_mul, Nat.add_mul, Nat.mul_assoc X]
    have hub : r * Z * P < W * Z * P := Nat.mul_lt_mul_of_pos_right hrz hp
    have hc : c ≤ X := by
      have h1 : P * (W * Z) * c < (X + 1) * (W * Z * P) := by
        rw [Nat.add_mul, Nat.one_mul, ← Nat.mul_assoc X (W * Z) P]
        omega
      rw [Nat.mul_comm P, Nat.mul_comm] at h1
      have := Nat.lt_of_mul_lt_mul_right h1
      omega
    have hg2 : P * (W * Z) * c ≤ X * (W * Z) * P := by
      have := Nat.mul_le_mul_right (W * Z * P) hc
      rw [Nat.mul_comm P, Nat.mul_comm _ c, Nat.mul_assoc X]; exact this
    refine ⟨hg2, by omega, ?_⟩
    by_cases hr0 : r = 0
    · subst hr0
      simp only [Nat.zero_mul, Nat.add_zero] at hT2
      rw [← hT2, htr]; simp
    · have hrp : 0 < r * Z * P := Nat.mul_pos (Nat.mul_pos (by omega) hz) hp
      rw [decide_eq_true hr0, decide_eq_true (by omega), Bool.or_true]
theorem grid_of {Q E dp : Int} {G M : Nat} (hM : M = 5000) (h1 : dp ≤ 800) (h2 : -4200 ≤ dp) (h3 : E + dp ≤ Q + 800) (h4 : 0 ≤ E + 3000) (h5 : 0 ≤ Q + 3000) : 2 ^ (E + 3000).toNat * 10 ^ (4200 + dp).toNat ∣ G * (2 ^ (Q + 3000).toNat * 10 ^ M) := by
  refine Nat.dvd_trans ?_ (Nat.dvd_mul_left _ _)
  have e1 : ∀ k : Nat, 10 ^ k = 2 ^ k * 5 ^ k := fun k => by rw [← Nat.mul_pow]
  rw [e1, e1, ← Nat.mul_assoc, ← Nat.mul_assoc, ← Nat.pow_add, ← Nat.pow_add]
  exact Nat.mul_dvd_mul (Nat.pow_dvd_pow 2 (by omega)) (Nat.pow_dvd_pow 5 (by omega))
theorem cond_of {L E dp : Int} {W M : Nat} (hM : M = 5000) (hV : W < 10 ^ M * 2 ^ (L + 3001).toNat) (h : 10 ^ (5000 + dp - 1).toNat * 2 ^ (E + 3000).toNat ≤ W) (d0 : -4000 ≤ dp) (hE : 0 ≤ E + 3000) (hL : 0 ≤ L + 3001) : (1 ≤ dp ∧ E + 3 * dp ≤ L + 3) ∨ (dp ≤ 1 ∧ 10 * dp ≤ 3 * L - 3 * E + 12) := by
  rcases Int.le_total 1 dp with hd | hd
  · left
    refine ⟨hd, ?_⟩
    have e1 : 10 ^ (5000 + dp - 1).toNat = 10 ^ M * 10 ^ (dp - 1).toNat := by rw [← Nat.pow_add]; congr 1; omega
    rw [e1, Nat.mul_assoc] at h
    have h1 := Nat.lt_of_mul_lt_mul_left (Nat.lt_of_le_of_lt h hV)
    have h2 : 2 ^ (3 * (dp - 1).toNat) ≤ 10 ^ (dp - 1).toNat := by rw [Nat.pow_mul]; exact Nat.pow_le_pow_left (by decide) _
    have h3 := Nat.lt_of_le_of_lt (Nat.mul_le_mul_right (2 ^ (E + 3000).toNat) h2) h1
    rw [← Nat.pow_add] at h3
    have := (Nat.pow_lt_pow_iff_right (a := 2) (by omega)).1 h3
    omega
  · right
    refine ⟨hd, ?_⟩
    obtain ⟨a, ha⟩ : ∃ a : Nat, 1 - dp = (a : Int) := ⟨(1 - dp).toNat, by omega⟩
    have e1 : 10 ^ M = 10 ^ (5000 + dp - 1).toNat * 10 ^ a := by rw [← Nat.pow_add]; congr 1; omega
    rw [e1, Nat.mul_assoc] at hV
    have h1 := Nat.lt_of_mul_lt_mul_left (Nat.lt_of_le_of_lt h hV)
    have h2 : (10 ^ a) ^ 3 ≤ 2 ^ (10 * a) := by
      rw [← Nat.pow_mul, Nat.mul_comm a 3, Nat.pow_mul, Nat.pow_mul]
      exact Nat.pow_le_pow_left (by decide) _
    have h3 : (2 ^ (E + 3000).toNat) ^ 3 < (10 ^ a * 2 ^ (L + 3001).toNat) ^ 3 := Nat.pow_lt_pow_left h1 (by omega)
    rw [Nat.mul_pow] at h3
    have h4 := Nat.lt_of_lt_of_le h3 (Nat.mul_le_mul_right _ h2)
    rw [← Nat.pow_mul, ← Nat.pow_mul, ← Nat.pow_add] at h4
    have := (Nat.pow_lt_pow_iff_right (a := 2) (by omega)).1 h4
    omega
theorem cond_fin {L E dp Q : Int} (h : (1 ≤ dp ∧ E + 3 * dp ≤ L + 3) ∨ (dp ≤ 1 ∧ 10 * dp ≤ 3 * L - 3 * E + 12)) (hE : E ≤ 0 ∨ E ≤ L + 100) (hL : -1105 ≤ L) (q1 : L - 53 ≤ Q) (q2 : -1075 ≤ Q ∨ L ≤ Q) : E + dp ≤ Q + 800 := by
  rcases h with ⟨h1, h2⟩ | ⟨h1, h2⟩ <;> rcases hE with hE | hE <;> rcases q2 with q2 | q2 <;> omega
end Go.Proofs.YtfndpecffhempaaDoor
/- Plain facts on the slow road: the steps keep what is told of the number. No function of the program is walked here. -/
namespace Go.Proofs.YtfndpecffhempaaDoor
open Go.RowKit

/-- what is fixed on the road: the number S by 10^M; L its logarithm; Q the place down to which all must stay right; G its multiple -/
structure Road (M N S F G : Nat) (least L Q : Int) : Prop where
  hM : M = 5000
  hN : N = 3000
  lo : 10 ^ M * 2 ^ (L + 3000).toNat ≤ S * 2 ^ N
  hi : S * 2 ^ N < 10 ^ M * 2 ^ (L + 3001).toNat
  l0 : -1105 ≤ L
  l1 : L ≤ 1100
  hQ : Q = min (max (L - F) least - 1) L
  g0 : G * (2 ^ (Q + 3000).toNat * 10 ^ M) ≤ S * 2 ^ N
  g1 : S * 2 ^ N < (G + 1) * (2 ^ (Q + 3000).toNat * 10 ^ M)
  hF : F ≤ 52
  le0 : -1074 ≤ least
  le1 : least ≤ 0
theorem five_k {M r z : Nat} (h : M = 5000) (hz : z = (5000 - ((r + 1 : Nat) : Int)).toNat) (hr : r ≤ 900) : M = r + z + 1 := by omega
def gR (M G : Nat) (Q : Int) : Nat := G * (2 ^ (Q + 3000).toNat * 10 ^ M)

section
variable {M N S F0 G : Nat} {least L Q : Int} {l l' : List Nat} {dp dp' E : Int} {tr tr' : Bool}
theorem Road.q (R : Road M N S F0 G least L Q) : L - 53 ≤ Q ∧ (-1075 ≤ Q ∨ L ≤ Q) ∧ Q ≤ L ∧ -1200 ≤ Q := by
  have h := R.hQ
  have := R.l0; have := R.l1; have := R.hF; have := R.le0
  rw [Int.min_def, Int.max_def] at h
  split at h <;> split at h <;> omega
theorem Road.step (R : Road M N S F0 G least L Q) {FF : List Nat} {k1 k2 : Nat} (h : App (gR M G Q) (S * 2 ^ N) l dp tr E) (hF : Lead FF) (hlen : FF.length ≤ 900) (hsv : sv FF dp' * 2 ^ (k2) = sv l dp * 2 ^ k1) (E' : Int) (hE' : E' + k1 = E + k2) (e0 : -1200 ≤ E) (e1 : -1200 ≤ E') (hb : E' ≤ 0 ∨ E' ≤ L + 100) (d0 : -3000 ≤ dp') (d1 : dp' ≤ 800) :
    App (gR M G Q) (S * 2 ^ N) (tailL (FF.take 800)) dp' (tr || decide (valD (FF.drop 800) ≠ 0)) E' := by
  obtain ⟨h1, h2, h3⟩ := h
  obtain ⟨q1, q2, q3, q4⟩ := R.q
  have hT : sv FF dp' * 2 ^ (E' + 3000).toNat = sv l dp * 2 ^ (E + 3000).toNat := by
    apply Nat.eq_of_mul_eq_mul_right (two_pos (k2 + k1))
    have a1 : 2 ^ (E' + 3000).toNat * 2 ^ k1 = 2 ^ (E + 3000).toNat * 2 ^ k2 := by rw [← Nat.pow_add, ← Nat.pow_add]; congr 1; omega
    rw [Nat.pow_add]
    calc sv FF dp' * 2 ^ (E' + 3000).toNat * (2 ^ k2 * 2 ^ k1) = (sv FF dp' * 2 ^ k2) * (2 ^ (E' + 3000).toNat * 2 ^ k1) := by ac_rfl
      _ = sv l dp * 2 ^ (E + 3000).toNat * (2 ^ k2 * 2 ^ k1) := by rw [hsv, a1]; ac_rfl
  have hsb := (sv_bounds hF (show (FF.length : Int) ≤ 5000 + dp' by omega)).1
  have hcond := cond_of (W := S * 2 ^ N) R.hM R.hi (Nat.le_trans (Nat.mul_le_mul_right _ hsb) (by rw [hT]; exact h2)) (show -4000 ≤ dp' by omega) (by omega) (by have := R.l0; omega)
  have hfin := cond_fin hcond hb R.l0 q1 q2
  exact app_cut hF.1 (by omega) (by omega) hT h1 h2 h3 (grid_of R.hM d1 (by omega) hfin (by omega) (by omega))
theorem Road.chain (R : Road M N S F0 G least L Q) (left : Bool) (ks : List Nat) : ∀ {l l' : List Nat} {dp dp' E : Int} {tr tr' : Bool}, ShC left ks l dp tr l' dp' tr' → App (gR M G Q) (S * 2 ^ N) l dp tr E → l.length ≤ 800 → -1200 ≤ E → -1200 ≤ E - (if left then (ks.sum : Int) else -(ks.sum : Int)) → (E - (if left then 0 else -(ks.sum : Int)) ≤ 0 ∨ E - (if left then 0 else -(ks.sum : Int)) ≤ L + 100) → -2000 + 20 * (ks.length : Int) ≤ dp → dp + 20 * (ks.length : Int) ≤ 800 →
    App (gR M G Q) (S * 2 ^ N) l' dp' tr' (E - (if left then (ks.sum : Int) else -(ks.sum : Int))) := by
  induction ks with
  | nil =>
    intro l l' dp dp' E tr tr' h ha _ _ _ _ _ _
    obtain ⟨rfl, rfl, rfl⟩ := h
    cases left <;> simpa using ha
  | cons k ks ih =>
    intro l l' dp dp' E tr tr' h ha hl e0 e1 hb d0 d1
    obtain ⟨l1, dp1, tr1, hp, hc⟩ := h
    have hlen1 := hp.lead.2.1
    obtain ⟨FF, hF, hFl, rfl, hsv, rfl, p1, p2⟩ := hp
    rw [List.length_cons] at d0 d1
    rw [List.sum_cons] at e1 hb ⊢
    cases left
    · simp only [Bool.false_eq_true, if_false] at *
      have h1 := R.step (k1 := 0) (k2 := k) (E := E) ha hF (by omega) (by rw [hsv]) (E + k) (by omega) e0 (by omega) (by omega) (by omega) (by omega)
      have h2 := ih hc h1 hlen1 (by omega) (by omega) (by omega) (by omega) (by omega)
      have e : E - -((k + ks.sum : Nat) : Int) = E + k - -(ks.sum : Int) := by omega
      rw [e]; exact h2
    · simp only [if_true] at *
      have h1 := R.step (k1 := k) (k2 := 0) (E := E) ha hF (by omega) (by rw [← hsv]) (E - k) (by omega) e0 (by omega) (by omega) (by omega) (by omega)
      have h2 := ih hc h1 hlen1 (by omega) (by omega) (by omega) (by omega) (by omega)
      have e : E - ((k + ks.sum : Nat) : Int) = E - k - (ks.sum : Int) := by omega
      rw [e]; exact h2
theorem Road.shift (R : Road M N S F0 G least L Q) {K : Int} (h : ShK l dp tr K l' dp' tr') (ha : App (gR M G Q) (S * 2 ^ N) l dp tr E) (hL : Lead l) (hl : l.length ≤ 800) (k0 : -1140 ≤ K) (k1 : K ≤ 1140) (e0 : -1200 ≤ E) (e1 : -1200 ≤ E - K) (b0 : E ≤ 0 ∨ E ≤ L + 100) (b1 : E - K ≤ 0 ∨ E - K ≤ L + 100) (d0 : -1500 ≤ dp) (d1 : dp ≤ 400) :
    App (gR M G Q) (S * 2 ^ N) l' dp' tr' (E - K) ∧ Lead l' ∧ l'.length ≤ 800 ∧ dp - 20 * (K.natAbs / 60 + 1 : Nat) ≤ dp' ∧ dp' ≤ dp + 20 * (K.natAbs / 60 + 1 : Nat) := by
  rcases h with ⟨h0, rfl, rfl, rfl⟩ | ⟨h0, hK, ks, hk, hs, hn, hc⟩
  · rcases h0 with h0 | h0
    · have := hL.2.1; omega
    · subst h0; exact ⟨by simpa using ha, hL, hl, by omega, by omega⟩
  · obtain ⟨g1, g2, g3, g4⟩ := hc.lead hL hl
    refine ⟨?_, g1, g2, by omega, by omega⟩
    have := R.chain _ ks hc ha hl e0
    rcases Int.lt_trichotomy K 0 with hK2 | hK2 | hK2
    · rw [decide_eq_false (show ¬ 0 < K by omega)] at this
      simp only [Bool.false_eq_true, if_false] at this
      have h1 := this (by omega) (by omega) (by omega) (by omega)
      rw [show E - K = E - -(ks.sum : Int) by omega]; exact h1
    · exact absurd hK2 hK
    · rw [decide_eq_true hK2] at this
      simp only [if_true] at this
      have h1 := this (by omega) (by omega) (by omega) (by omega)
      rw [show E - K = E - (ks.sum : Int) by omega]; exact h1
theorem sv_cut_le {FF : List Nat} {dp : Int} (h : (FF.length : Int) ≤ 5000 + dp) : sv (tailL (FF.take 800)) dp ≤ sv FF dp := by
  rw [sv_tail (by rw [List.length_take]; omega)]
  by_cases hl : FF.length ≤ 800
  · rw [List.take_of_length_le hl]; exact Nat.le_refl _
  · have hs : valD FF = valD (FF.take 800) * 10 ^ (FF.length - 800) + valD (FF.drop 800) := by
      have := valD_append (FF.take 800) (FF.drop 800)
      rw [List.take_append_drop, List.length_drop] at this
      exact this
    unfold sv
    have e : 10 ^ (5000 + dp - ((FF.take 800).length : Int)).toNat = 10 ^ (FF.length - 800) * 10 ^ (5000 + dp - FF.length).toNat := by
      rw [List.length_take, Nat.min_eq_left (by omega), ← Nat.pow_add]; congr 1; omega
    rw [e, ← Nat.mul_assoc]
    exact Nat.mul_le_mul_right _ (by omega)
theorem shC_left_le (ks : List Nat) : ∀ {l l' : List Nat} {dp dp' : Int} {tr tr' : Bool}, ShC true ks l dp tr l' dp' tr' → l.length ≤ 800 → -3000 + 20 * (ks.length : Int) ≤ dp → sv l' dp' ≤ sv l dp * 2 ^ ks.sum := by
  induction ks with
  | nil => intro l l' dp dp' tr tr' h _ _; obtain ⟨rfl, rfl, rfl⟩ := h; simp
  | cons k ks ih =>
    intro l l' dp dp' tr tr' h hl d0
    obtain ⟨l1, dp1, tr1, hp, hc⟩ := h
    have hlen1 := hp.lead.2.1
    obtain ⟨FF, hF, hFl, rfl, hsv, rfl, p1, p2⟩ := hp
    simp only [if_true] at hsv
    rw [List.length_cons] at d0
    have h1 := ih hc hlen1 (by omega)
    have h2 := sv_cut_le (FF := FF) (dp := dp1) (by omega)
    rw [List.sum_cons, Nat.pow_add, ← Nat.mul_assoc, ← hsv, Nat.mul_one]
    exact Nat.le_trans h1 (Nat.mul_le_mul_right _ h2)
/-- a number below 1 that is moved left and stays below 1 -/
theorem left_dp {n : Nat} (h : ShK l dp tr (n : Int) l' dp' tr') (hn : 1 ≤ n) (hn2 : n ≤ 1000) (hL : Lead l) (hl : l.length ≤ 800) (d0 : -1500 ≤ dp) (d1 : dp ≤ 1500) (hM : M = 5000) (hlt : sv l dp * 2 ^ n < 10 ^ M) : dp' ≤ 0 := by
  rcases h with ⟨h0, rfl, rfl, rfl⟩ | ⟨h0, hK, ks, hk, hs, hnn, hc⟩
  · rcases h0 with h0 | h0
    · have := hL.2.1; omega
    · omega
  · rw [decide_eq_true (show (0 : Int) < (n : Int) by omega)] at hc
    obtain ⟨g1, g2, g3, g4⟩ := hc.lead hL hl
    have h1 := shC_left_le ks hc hl (by omega)
    rw [show ks.sum = n by omega] at h1
    have h2 := (sv_bounds g1 (show (l'.length : Int) ≤ 5000 + dp' by omega)).1
    have h3 := Nat.lt_of_le_of_lt (Nat.le_trans h2 h1) hlt
    have := (Nat.pow_lt_pow_iff_right (a := 10) (by omega)).1 h3
    omega
theorem Road.g_ge (R : Road M N S F0 G least L Q) : 10 ^ M * 2 ^ (L + 3000).toNat ≤ gR M G Q := by
  obtain ⟨q1, q2, q3, q4⟩ := R.q
  have h0 := R.l0
  have e : 2 ^ (L + 3000).toNat = 2 ^ (L - Q).toNat * 2 ^ (Q + 3000).toNat := by rw [← Nat.pow_add]; congr 1; omega
  have h1 := Nat.lt_of_le_of_lt R.lo R.g1
  have e2 : 10 ^ M * 2 ^ (L + 3000).toNat = 2 ^ (L - Q).toNat * (2 ^ (Q + 3000).toNat * 10 ^ M) := by rw [e]; ac_rfl
  rw [e2] at h1 ⊢
  have := Nat.lt_of_mul_lt_mul_right h1
  exact Nat.mul_le_mul_right _ (by omega)
theorem Road.e_gt (R : Road M N S F0 G least L Q) (ha : App (gR M G Q) (S * 2 ^ N) l dp tr E) (hL : Lead l) (hl : l.length ≤ 800) (d0 : -4000 ≤ dp) (d1 : dp ≤ 0) : L < E := by
  have h1 := Nat.le_trans R.g_ge ha.1
  have h2 := (sv_bounds hL (show (l.length : Int) ≤ 5000 + dp by omega)).2
  have h3 : 10 ^ (5000 + dp).toNat ≤ 10 ^ M := Nat.pow_le_pow_right (by omega) (by have := R.hM; omega)
  have h4 := Nat.lt_of_le_of_lt h1 (Nat.mul_lt_mul_of_pos_right (Nat.lt_of_lt_of_le h2 h3) (two_pos (E + 3000).toNat))
  have h5 := (Nat.pow_lt_pow_iff_right (a := 2) (by omega)).1 (Nat.lt_of_mul_lt_mul_left h4)
  have := R.l0
  omega
theorem Road.e_le (R : Road M N S F0 G least L Q) (ha : App (gR M G Q) (S * 2 ^ N) l dp tr E) (hL : Lead l) (hl : l.length ≤ 800) (d1 : 1 ≤ dp) (e0 : -1200 ≤ E) : E ≤ L := by
  have h1 := (sv_bounds hL (show (l.length : Int) ≤ 5000 + dp by omega)).1
  rcases cond_of R.hM R.hi (Nat.le_trans (Nat.mul_le_mul_right _ h1) ha.2.1) (by omega) (by omega) (by have := R.l0; omega) with h | h <;> omega
theorem Road.e_eq (R : Road M N S F0 G least L Q) (ha : App (gR M G Q) (S * 2 ^ N) l dp tr E) (hL : Lead l) (hl : l.length ≤ 800) (d0 : dp = 0) (h5 : 53 ≤ nth l 0) (e0 : -1200 ≤ E) : E = L + 1 := by
  have hgt := R.e_gt ha hL hl (by omega) (by omega)
  have h1 := Nat.lt_of_le_of_lt ha.2.1 R.hi
  have h2 : 10 ^ M ≤ 2 * sv l dp := by
    obtain ⟨c, r, rfl⟩ : ∃ c r, l = c :: r := by
      cases l with
      | nil => have := hL.2.1; simp at this
      | cons c r => exact ⟨c, r, rfl⟩
    have hc : 53 ≤ c := by simpa [nth] using h5
    unfold sv
    rw [valD_cons, d0, Int.add_zero]
    have hlr : (c :: r).length = r.length + 1 := List.length_cons
    obtain ⟨z, hz⟩ : ∃ z, z = (5000 - ((c :: r).length : Int)).toNat := ⟨_, rfl⟩
    rw [← hz]
    have e : 10 ^ M = 10 * (10 ^ r.length * 10 ^ z) := by
      have hMz : M = r.length + z + 1 := by
        have h6 := R.hM
        have h7 : r.length ≤ 900 := by omega
        rw [hlr] at hz
        exact five_k h6 hz h7
      rw [hMz, Nat.pow_succ, Nat.pow_add, Nat.mul_comm]
    rw [e]
    generalize 10 ^ z = Z
    generalize 10 ^ r.length = Y
    have h3 : 5 * Y ≤ (c - 48) * Y := Nat.mul_le_mul_right _ (by omega)
    have h4 := Nat.mul_le_mul_right Z (show 5 * Y ≤ (c - 48) * Y + valD r by omega)
    rw [Nat.mul_assoc] at h4
    omega
  have h3 : 10 ^ M * 2 ^ (E + 3000).toNat < 10 ^ M * 2 ^ ((L + 3001).toNat + 1) := by
    have := Nat.mul_le_mul_right (2 ^ (E + 3000).toNat) h2
    rw [Nat.mul_assoc] at this
    rw [Nat.pow_succ, ← Nat.mul_assoc]
    omega
  have h4 := (Nat.pow_lt_pow_iff_right (a := 2) (by omega)).1 (Nat.lt_of_mul_lt_mul_left h3)
  have := R.l0
  omega
end
end Go.Proofs.YtfndpecffhempaaDoor
/- Plain facts on the slow road: where it begins and where it ends. No function of the program is walked here. -/
namespace Go.Proofs.YtfndpecffhempaaDoor
open Go.RowKit

theorem ten331 : ∃ a b : Nat, a = 331 ∧ b = 1105 ∧ 10 ^ a ≤ 2 ^ b := ⟨331, 1105, rfl, rfl, by decide +kernel⟩
theorem ten310 : ∃ a b : Nat, a = 310 ∧ b = 1101 ∧ 10 ^ a ≤ 2 ^ b := ⟨310, 1101, rfl, rfl, by decide +kernel⟩
theorem road_of {M N F : Nat} {least : Int} {l : List Nat} {dp : Int} (hM : M = 5000) (hN : N = 3000) (hL : Lead l) (hl : l.length ≤ 800) (d0 : -330 ≤ dp) (d1 : dp ≤ 310) (hF : F ≤ 52) (le0 : -1074 ≤ least) (le1 : least ≤ 0) :
    ∃ G Q, Road M N (sv l dp) F G least (lgQ (sv l dp) (10 ^ M)) Q ∧ App (gR M G Q) (sv l dp * 2 ^ N) l dp false 0 := by
  obtain ⟨b1, b2⟩ := sv_bounds hL (show (l.length : Int) ≤ 5000 + dp by omega)
  have hp : 0 < 10 ^ M := Nat.pow_pos (by omega)
  have hS0 : sv l dp ≠ 0 := by have := Nat.pow_pos (n := (5000 + dp - 1).toNat) (show 0 < 10 by omega); omega
  obtain ⟨g1, g2⟩ := lgQ_spec hS0 (show 10 ^ M ≠ 0 by omega)
  generalize hLL : lgQ (sv l dp) (10 ^ M) = L at *
  have hlo : -1105 ≤ L := by
    rcases Int.lt_or_le L (-1105) with h | h
    · exfalso
      apply g2
      refine geP_mono (show L + 1 ≤ -1105 by omega) ?_
      obtain ⟨a, b, ha, hb, hab⟩ := ten331
      rw [geP_iff (A := 0) (B := b) (by omega), Nat.pow_zero, Nat.mul_one]
      have e : 10 ^ M ≤ 10 ^ (5000 + dp - 1).toNat * 10 ^ a := by rw [← Nat.pow_add]; exact Nat.pow_le_pow_right (by omega) (by omega)
      exact Nat.le_trans e (Nat.mul_le_mul b1 hab)
    · exact h
  have hhi : L ≤ 1100 := by
    rcases Int.lt_or_le 1100 L with h | h
    · exfalso
      have h2 := geP_mono (show (1101 : Int) ≤ L by omega) g1
      obtain ⟨a, b, ha, hb, hab⟩ := ten310
      rw [geP_iff (A := b) (B := 0) (by omega), Nat.pow_zero, Nat.mul_one] at h2
      have e : 10 ^ (5000 + dp).toNat ≤ 10 ^ M * 10 ^ a := by rw [← Nat.pow_add]; exact Nat.pow_le_pow_right (by omega) (by omega)
      have := Nat.le_trans e (Nat.mul_le_mul_left (10 ^ M) hab)
      exact absurd (Nat.le_trans h2 (Nat.le_refl _)) (Nat.not_le.2 (Nat.lt_of_lt_of_le b2 this))
    · exact h
  rw [geP_iff (A := (L + 3000).toNat) (B := N) (by omega)] at g1
  rw [geP_iff (A := (L + 3001).toNat) (B := N) (by omega), Nat.not_le] at g2
  obtain ⟨Q, hQ⟩ : ∃ Q, Q = min (max (L - F) least - 1) L := ⟨_, rfl⟩
  have hw : 0 < 2 ^ (Q + 3000).toNat * 10 ^ M := Nat.mul_pos (two_pos _) hp
  obtain ⟨G, hG⟩ : ∃ G, G = sv l dp * 2 ^ N / (2 ^ (Q + 3000).toNat * 10 ^ M) := ⟨_, rfl⟩
  have hdm := Nat.div_add_mod (sv l dp * 2 ^ N) (2 ^ (Q + 3000).toNat * 10 ^ M)
  have hml := Nat.mod_lt (sv l dp * 2 ^ N) hw
  rw [← hG] at hdm
  have e0 : G * (2 ^ (Q + 3000).toNat * 10 ^ M) ≤ sv l dp * 2 ^ N := by rw [Nat.mul_comm]; omega
  have e1 : sv l dp * 2 ^ N < (G + 1) * (2 ^ (Q + 3000).toNat * 10 ^ M) := by rw [Nat.add_mul, Nat.one_mul, Nat.mul_comm G]; omega
  refine ⟨G, Q, ⟨hM, hN, g1, g2, hlo, hhi, hQ, e0, e1, hF, le0, le1⟩, ?_⟩
  have e3 : ((0 : Int) + 3000).toNat = N := by omega
  unfold App gR
  rw [e3]
  exact ⟨e0, Nat.le_refl _, by simp⟩

/-- the nearest whole number, of what is cut -/
theorem rhe_trunc {V T w c G : Nat} (hw : 0 < w) (hc : 0 < c) (h0 : G * w ≤ T) (h1 : T ≤ V) (h2 : V < (G + 1) * w) :
    rhe V (w * c * 2) = T / (w * c * 2) + if w * c < T % (w * c * 2) ∨ (T % (w * c * 2) = w * c ∧ (T ≠ V ∨ T / (w * c * 2) % 2 = 1)) then 1 else 0 := by
  have v1 : V / w = G := by
    apply Nat.le_antisymm
    · have := (Nat.div_lt_iff_lt_mul hw).2 h2; omega
    · exact (Nat.le_div_iff_mul_le hw).2 (Nat.le_trans h0 h1)
  have t1 : T / w = G := by
    apply Nat.le_antisymm
    · have := (Nat.div_lt_iff_lt_mul hw).2 (Nat.lt_of_le_of_lt h1 h2); omega
    · exact (Nat.le_div_iff_mul_le hw).2 h0
  have hh : 0 < w * c := Nat.mul_pos hw hc
  have v2 : V / (w * c) = G / c := by rw [← Nat.div_div_eq_div_mul, v1]
  have t2 : T / (w * c) = G / c := by rw [← Nat.div_div_eq_div_mul, t1]
  have vd := Nat.div_add_mod V (w * c)
  have td := Nat.div_add_mod T (w * c)
  have vm := Nat.mod_lt V hh
  have tm := Nat.mod_lt T hh
  unfold rhe
  rw [← Nat.div_div_eq_div_mul V, ← Nat.div_div_eq_div_mul T, Nat.mod_mul, Nat.mod_mul (x := T)]
  rw [v2] at vd ⊢
  rw [t2] at td ⊢
  generalize w * c = h at *
  generalize G / c = m at *
  generalize V % h = rv at *
  generalize T % h = rt at *
  have hle : rt ≤ rv := by omega
  rcases Nat.mod_two_eq_zero_or_one m with hm | hm
  · rw [hm, Nat.mul_zero, Nat.add_zero, Nat.add_zero, if_neg (by omega), if_neg (by omega)]
  · rw [hm, Nat.mul_one]
    congr 1
    by_cases hz : rt = 0
    · by_cases hv : rv = 0
      · have : T = V := by omega
        by_cases ho : m / 2 % 2 = 1
        · rw [if_pos (.inr ⟨by omega, ho⟩), if_pos (.inr ⟨by omega, .inr ho⟩)]
        · rw [if_neg (by omega), if_neg (by omega)]
      · rw [if_pos (.inl (by omega)), if_pos (.inr ⟨by omega, .inl (by omega)⟩)]
    · rw [if_pos (.inl (by omega)), if_pos (.inl (by omega))]
end Go.Proofs.YtfndpecffhempaaDoor
/- Plain facts on the slow road: the whole number that is read off at the end is the nearest one. No function of the program is walked here. -/
namespace Go.Proofs.YtfndpecffhempaaDoor
open Go.RowKit

theorem rI_take {D l : List Nat} (d : Nat) (tr : Bool) (h : D.take l.length = l) : rI D l.length d tr = rI l l.length d tr := by
  have e1 : D.take (min d l.length) = l.take (min d l.length) := by
    have h' := congrArg (List.take (min d l.length)) h
    rw [List.take_take] at h'
    rw [← h']; congr 1; omega
  have e2 : ∀ i, i < l.length → nth D i = nth l i := fun i hi => by
    have h' : nth (D.take l.length) i = nth l i := by rw [h]
    rw [← h', nth_take hi]
  unfold rI intD shU
  rw [e1]
  congr 2
  by_cases hd : l.length ≤ d
  · rw [if_pos hd, if_pos hd]
  · rw [if_neg hd, if_neg hd, e2 d (by omega)]
    by_cases h0 : 0 < d
    · rw [e2 (d - 1) (by omega)]
    · rw [show d - 1 = d by omega, e2 d (by omega)]
theorem if_bool {b : Bool} {p : Prop} [Decidable p] (h : b = decide p) : (if b = true then 1 else 0 : Nat) = (if p then 1 else 0) := by
  subst h
  by_cases hp : p
  · rw [decide_eq_true hp, if_pos rfl, if_pos hp]
  · rw [decide_eq_false hp, if_neg (by simp), if_neg hp]
theorem rI_val {l : List Nat} {d M P2 : Nat} (tr : Bool) (hL : Digs l) (h0 : 0 < l.length) (hz : nth l (l.length - 1) ≠ 48) (hl : l.length ≤ 800) (hM : M = 5000) (hP : 10 ^ M = 2 * P2) :
    rI l l.length d tr = sv l d / 10 ^ M + if P2 < sv l d % 10 ^ M ∨ (sv l d % 10 ^ M = P2 ∧ (tr = true ∨ sv l d / 10 ^ M % 2 = 1)) then 1 else 0 := by
  have hp : 0 < 10 ^ M := Nat.pow_pos (by omega)
  unfold rI intD
  by_cases hd : l.length ≤ d
  · have e1 : sv l d = valD l * 10 ^ (d - l.length) * 10 ^ M := by
      unfold sv; rw [Nat.mul_assoc, ← Nat.pow_add]; congr 2; omega
    have e2 : shU l l.length d tr = false := by unfold shU; rw [if_pos hd]
    rw [e1, Nat.mul_div_cancel _ hp, Nat.mul_mod_left, e2, Nat.min_eq_right hd, List.take_length]
    simp only [Bool.false_eq_true, if_false]
    rw [if_neg (by omega)]
  · obtain ⟨j, hj⟩ : ∃ j, l.length = d + 1 + j := ⟨l.length - d - 1, by omega⟩
    have hsp : valD l = valD (l.take d) * 10 ^ (j + 1) + valD (l.drop d) := by
      have := valD_append (l.take d) (l.drop d)
      rw [List.take_append_drop, List.length_drop, show l.length - d = j + 1 by omega] at this
      exact this
    have hlt := valD_lt (digs_drop hL d)
    rw [List.length_drop, show l.length - d = j + 1 by omega] at hlt
    have hdd := drop_dig (l := l) (r := d) (by omega)
    rw [show l.length - d - 1 = j by omega] at hdd
    have hlt2 := valD_lt (digs_drop hL (d + 1))
    rw [List.length_drop, show l.length - (d + 1) = j by omega] at hlt2
    have hx := digs_nth hL (k := d) (by omega)
    obtain ⟨z, hzz⟩ : ∃ z, M = j + 1 + z := ⟨M - (j + 1), by omega⟩
    have e1 : sv l d = valD (l.take d) * 10 ^ M + valD (l.drop d) * 10 ^ z := by
      unfold sv
      rw [show (5000 + (d : Int) - (l.length : Int)).toNat = z by omega, hsp, Nat.add_mul, Nat.mul_assoc, ← Nat.pow_add, ← hzz]
    have hrem : valD (l.drop d) * 10 ^ z < 10 ^ M := by
      rw [hzz, Nat.pow_add]; exact Nat.mul_lt_mul_of_pos_right hlt (Nat.pow_pos (by omega))
    have e2 : sv l d / 10 ^ M = valD (l.take d) := by
      rw [e1, Nat.add_comm, Nat.add_mul_div_right _ _ hp, Nat.div_eq_of_lt hrem, Nat.zero_add]
    have e3 : sv l d % 10 ^ M = valD (l.drop d) * 10 ^ z := by
      rw [e1, Nat.add_comm, Nat.add_mul_mod_self_right, Nat.mod_eq_of_lt hrem]
    rw [e2, e3, Nat.min_eq_left (by omega), show d - l.length = 0 by omega, Nat.pow_zero, Nat.mul_one]
    congr 1
    have hP2 : P2 = 5 * 10 ^ j * 10 ^ z := by
      have : 10 ^ M = 2 * (5 * 10 ^ j * 10 ^ z) := by rw [hzz, Nat.pow_add, Nat.pow_succ]; generalize 10 ^ j = A; generalize 10 ^ z = B; rw [Nat.mul_comm A 10, Nat.mul_assoc, Nat.mul_assoc]; omega
      omega
    have hzp : 0 < 10 ^ z := Nat.pow_pos (by omega)
    have c1 : P2 < valD (l.drop d) * 10 ^ z ↔ 5 * 10 ^ j < valD (l.drop d) := by
      rw [hP2]; exact ⟨fun h => Nat.lt_of_mul_lt_mul_right h, fun h => Nat.mul_lt_mul_of_pos_right h hzp⟩
    have c2 : valD (l.drop d) * 10 ^ z = P2 ↔ valD (l.drop d) = 5 * 10 ^ j := by
      rw [hP2]; exact ⟨fun h => Nat.eq_of_mul_eq_mul_right hzp h, fun h => by rw [h]⟩
    simp only [c1, c2]
    rw [hdd]
    have hpar : (0 < d ∧ nth l (d - 1) % 2 = 1) ↔ valD (l.take d) % 2 = 1 := by
      by_cases hd0 : 0 < d
      · have e := snoc_of (m := l.take d) (by rw [List.length_take]; omega)
        rw [List.length_take, Nat.min_eq_left (by omega), nth_take (by omega), List.take_take, Nat.min_eq_left (by omega)] at e
        have hx1 := digs_nth hL (k := d - 1) (by omega)
        rw [e, valD_snoc]
        omega
      · rw [show d = 0 by omega]; simp [valD]
    have hrest : 0 < j → 0 < valD (l.drop (d + 1)) := fun hj0 => by
      have hlen : (l.drop (d + 1)).length = j := by rw [List.length_drop]; omega
      have e := snoc_of (m := l.drop (d + 1)) (by rw [hlen]; exact hj0)
      have e5 : nth (l.drop (d + 1)) (j - 1) = nth l (l.length - 1) := by
        simp only [nth, List.getD_eq_getElem?_getD, List.getElem?_drop]; congr 2; omega
      have hx2 := digs_nth hL (k := l.length - 1) (by omega)
      rw [hlen, e5] at e
      rw [e, valD_snoc]
      omega
    have hj0 : j = 0 → valD (l.drop (d + 1)) = 0 := fun h => by
      rw [List.drop_of_length_le (by omega)]; rfl
    have hpj : 0 < 10 ^ j := Nat.pow_pos (by omega)
    refine if_bool ?_
    unfold shU
    rw [if_neg hd]
    generalize valD (l.take d) = T at *
    generalize valD (l.drop (d + 1)) = Y at *
    generalize nth l d = x at *
    generalize 10 ^ j = B at *
    by_cases h5 : x = 53 ∧ d + 1 = l.length
    · obtain ⟨rfl, h6⟩ := h5
      have hjz : j = 0 := by omega
      have hY := hj0 hjz
      rw [if_pos ⟨rfl, h6⟩, hY]
      cases tr
      · rw [Bool.false_or, ← Bool.decide_and]
        by_cases hpp : T % 2 = 1
        · rw [decide_eq_true (hpar.2 hpp), decide_eq_true (.inr ⟨by omega, .inr hpp⟩)]
        · rw [decide_eq_false (fun h => hpp (hpar.1 h)), decide_eq_false]
          intro h
          rcases h with h | ⟨_, h | h⟩
          · omega
          · cases h
          · exact hpp h
      · rw [Bool.true_or, decide_eq_true (.inr ⟨by omega, .inl rfl⟩)]
    · rw [if_neg h5]
      have hYp : x = 53 → 0 < Y := fun e => hrest (by omega)
      by_cases h53 : 53 ≤ x
      · have hm : 5 * B ≤ (x - 48) * B := Nat.mul_le_mul_right _ (by omega)
        have hgt : 5 * B < (x - 48) * B + Y := by
          rcases Nat.eq_or_lt_of_le h53 with e | e
          · have := hYp e.symm; omega
          · have : 6 * B ≤ (x - 48) * B := Nat.mul_le_mul_right _ (by omega)
            omega
        rw [decide_eq_true h53, decide_eq_true (.inl hgt)]
      · have hm : (x - 48) * B ≤ 4 * B := Nat.mul_le_mul_right _ (by omega)
        rw [decide_eq_false h53, decide_eq_false]
        intro h
        rcases h with h | ⟨h, _⟩ <;> omega
/-- what RoundedInteger answers -/
def mantV (l : List Nat) (dp : Int) (tr : Bool) : Nat := if dp < 0 then 0 else rI l l.length dp.toNat tr
theorem mant_eq {M N S F G : Nat} {least L Q q : Int} {l : List Nat} {dp : Int} {tr : Bool} (R : Road M N S F G least L Q) (hq : q = max (L - F) least) (ha : App (gR M G Q) (S * 2 ^ N) l dp tr q) (hL : Lead l) (hl : l.length ≤ 800) (hz : nth l (l.length - 1) ≠ 48) (d0 : -4000 ≤ dp) : mantV l dp tr = rnQ S (10 ^ M) q := by
  obtain ⟨P2, hP⟩ : ∃ P2, 10 ^ M = 2 * P2 := ⟨5 * 10 ^ (M - 1), by
    have e : M = M - 1 + 1 := by have := R.hM; omega
    conv => lhs; rw [e]
    rw [Nat.pow_succ]; omega⟩
  have hp : 0 < 10 ^ M := Nat.pow_pos (by omega)
  have hqQ : Q ≤ q - 1 ∧ -1200 ≤ Q ∧ -1200 ≤ q := by
    have h1 := R.hQ
    have h2 := R.q
    rw [← hq] at h1
    rw [Int.min_def] at h1
    split at h1 <;> omega
  have hx : 0 < 2 ^ (q + 3000).toNat := two_pos _
  have e0 : rnQ S (10 ^ M) q = rhe (S * 2 ^ N) (10 ^ M * 2 ^ (q + 3000).toNat) := rnQ_of (by have := R.hN; omega)
  have eU : 2 ^ (Q + 3000).toNat * 10 ^ M * 2 ^ (q - 1 - Q).toNat * 2 = 10 ^ M * 2 ^ (q + 3000).toNat := by
    have : 2 ^ (q + 3000).toNat = 2 ^ (Q + 3000).toNat * 2 ^ (q - 1 - Q).toNat * 2 := by rw [← Nat.pow_add, ← Nat.pow_succ]; congr 1; omega
    rw [this]; ac_rfl
  have hw : 0 < 2 ^ (Q + 3000).toNat * 10 ^ M := Nat.mul_pos (two_pos _) hp
  have key := rhe_trunc hw (two_pos (q - 1 - Q).toNat) ha.1 ha.2.1 R.g1
  rw [eU] at key
  have eH : 2 ^ (Q + 3000).toNat * 10 ^ M * 2 ^ (q - 1 - Q).toNat = P2 * 2 ^ (q + 3000).toNat := by
    have h9 : 10 ^ M * 2 ^ (q + 3000).toNat = 2 * (P2 * 2 ^ (q + 3000).toNat) := by rw [hP, Nat.mul_assoc]
    rw [h9] at eU
    generalize 2 ^ (Q + 3000).toNat * 10 ^ M * 2 ^ (q - 1 - Q).toNat = Z at *
    omega
  rw [eH] at key
  have htr := ha.2.2
  rw [e0, key, Nat.mul_div_mul_right _ _ hx, Nat.mul_mod_mul_right]
  have c1 : P2 * 2 ^ (q + 3000).toNat < sv l dp % 10 ^ M * 2 ^ (q + 3000).toNat ↔ P2 < sv l dp % 10 ^ M := ⟨fun h => Nat.lt_of_mul_lt_mul_right h, fun h => Nat.mul_lt_mul_of_pos_right h hx⟩
  have c2 : sv l dp % 10 ^ M * 2 ^ (q + 3000).toNat = P2 * 2 ^ (q + 3000).toNat ↔ sv l dp % 10 ^ M = P2 := ⟨fun h => Nat.eq_of_mul_eq_mul_right hx h, fun h => by rw [h]⟩
  have c3 : (sv l dp * 2 ^ (q + 3000).toNat ≠ S * 2 ^ N) ↔ tr = true := by rw [htr]; simp
  simp only [c1, c2, c3]
  unfold mantV
  by_cases hd : dp < 0
  · rw [if_pos hd]
    have h2 := (sv_bounds hL (show (l.length : Int) ≤ 5000 + dp by omega)).2
    have h3 : 10 ^ (5000 + dp).toNat ≤ 10 ^ (M - 1) := Nat.pow_le_pow_right (by omega) (by have := R.hM; omega)
    have h4 : 10 ^ M = 10 * 10 ^ (M - 1) := by
      have e : M = M - 1 + 1 := by have := R.hM; omega
      conv => lhs; rw [e]
      rw [Nat.pow_succ, Nat.mul_comm]
    have h5 : sv l dp < 10 ^ M := by omega
    rw [Nat.div_eq_of_lt h5, Nat.mod_eq_of_lt h5, if_neg (by omega)]
  · rw [if_neg hd]
    obtain ⟨d, rfl⟩ := Int.eq_ofNat_of_zero_le (show 0 ≤ dp by omega)
    rw [Int.toNat_natCast]
    exact rI_val tr hL.1 hL.2.1 hz hl R.hM hP
end Go.Proofs.YtfndpecffhempaaDoor
/- Plain facts on the slow road: the point's way, the two ends, the bits. No function of the program is walked here. -/
namespace Go.Proofs.YtfndpecffhempaaDoor
open Go.RowKit

theorem shP_dp {l l' : List Nat} {dp dp' : Int} {tr tr' : Bool} {k : Nat} (left : Bool) (hL : Lead l) (hl : l.length ≤ 800) (d0 : -3000 ≤ dp) (h : ShP l dp tr (if left then 2 ^ k else 1) (if left then 1 else 2 ^ k) l' dp' tr') : if left then dp ≤ dp' else dp' ≤ dp := by
  obtain ⟨FF, hF, hFl, rfl, hsv, rfl, p1, p2⟩ := h
  obtain ⟨a1, a2⟩ := sv_bounds hL (show (l.length : Int) ≤ 5000 + dp by omega)
  obtain ⟨b1, b2⟩ := sv_bounds hF (show (FF.length : Int) ≤ 5000 + dp' by omega)
  have hk := two_pos k
  cases left
  · simp only [Bool.false_eq_true, if_false] at hsv ⊢
    have h1 : sv FF dp' ≤ sv FF dp' * 2 ^ k := Nat.le_mul_of_pos_right _ hk
    have := (Nat.pow_lt_pow_iff_right (a := 10) (by omega)).1 (Nat.lt_of_le_of_lt (Nat.le_trans b1 h1) (by rw [hsv, Nat.mul_one]; exact a2))
    omega
  · simp only [if_true] at hsv ⊢
    have h1 : sv l dp ≤ sv l dp * 2 ^ k := Nat.le_mul_of_pos_right _ hk
    have := (Nat.pow_lt_pow_iff_right (a := 10) (by omega)).1 (Nat.lt_of_le_of_lt (Nat.le_trans a1 h1) (by rw [← hsv, Nat.mul_one]; exact b2))
    omega
theorem shC_dp (left : Bool) (ks : List Nat) : ∀ {l l' : List Nat} {dp dp' : Int} {tr tr' : Bool}, ShC left ks l dp tr l' dp' tr' → Lead l → l.length ≤ 800 → -3000 + 20 * (ks.length : Int) ≤ dp → if left then dp ≤ dp' else dp' ≤ dp := by
  induction ks with
  | nil => intro l l' dp dp' tr tr' h _ _ _; obtain ⟨_, rfl, _⟩ := h; cases left <;> simp
  | cons k ks ih =>
    intro l l' dp dp' tr tr' h hL hl d0
    obtain ⟨l1, dp1, tr1, hp, hc⟩ := h
    rw [List.length_cons] at d0
    have h1 := shP_dp left hL hl (by omega) hp
    obtain ⟨g1, g2, _⟩ := hp.lead
    obtain ⟨_, _, _, _, _, _, p1, p2⟩ := hp
    have h2 := ih hc g1 g2 (by omega)
    cases left
    · simp only [Bool.false_eq_true, if_false] at h1 h2 ⊢; omega
    · simp only [if_true] at h1 h2 ⊢; omega
theorem shK_dp {l l' : List Nat} {dp dp' K : Int} {tr tr' : Bool} (h : ShK l dp tr K l' dp' tr') (hL : Lead l) (hl : l.length ≤ 800) (d0 : -1500 ≤ dp) (k0 : -1140 ≤ K) (k1 : K ≤ 1140) : (0 ≤ K → dp ≤ dp') ∧ (K ≤ 0 → dp' ≤ dp) := by
  rcases h with ⟨h0, rfl, rfl, rfl⟩ | ⟨h0, hK, ks, hk, hs, hn, hc⟩
  · exact ⟨fun _ => by omega, fun _ => by omega⟩
  · have := shC_dp _ ks hc hL hl (by omega)
    rcases Int.lt_trichotomy K 0 with hK2 | hK2 | hK2
    · rw [decide_eq_false (show ¬ 0 < K by omega)] at this
      simp only [Bool.false_eq_true, if_false] at this
      exact ⟨fun h => by omega, fun _ => this⟩
    · exact absurd hK2 hK
    · rw [decide_eq_true hK2] at this
      simp only [if_true] at this
      exact ⟨fun _ => this, fun h => by omega⟩
theorem shK_last {l l' : List Nat} {dp dp' K : Int} {tr tr' : Bool} (h : ShK l dp tr K l' dp' tr') (h0 : l.length ≠ 0) (hK : K ≠ 0) : nth l' (l'.length - 1) ≠ 48 := by
  rcases h with ⟨h1, _⟩ | ⟨_, _, ks, hk, hs, hn, hc⟩
  · omega
  · cases ks with
    | nil => rw [List.sum_nil] at hs; omega
    | cons k ks => obtain ⟨l1, dp1, tr1, hp, hc2⟩ := hc; exact hc2.last hp.lead.2.2
/-- a number below 1 times 2^n, n at most 53 -/
theorem left_dp16 {l l' : List Nat} {dp dp' : Int} {tr tr' : Bool} {n : Nat} (h : ShK l dp tr (n : Int) l' dp' tr') (hn : 1 ≤ n) (hn2 : n ≤ 53) (hL : Lead l) (hl : l.length ≤ 800) (d0 : -1500 ≤ dp) (d1 : dp ≤ 0) : dp' ≤ 16 := by
  rcases h with ⟨h0, rfl, rfl, rfl⟩ | ⟨h0, hK, ks, hk, hs, hnn, hc⟩
  · omega
  · rw [decide_eq_true (show (0 : Int) < (n : Int) by omega)] at hc
    obtain ⟨g1, g2, g3, g4⟩ := hc.lead hL hl
    have h1 := shC_left_le ks hc hl (by omega)
    rw [show ks.sum = n by omega] at h1
    have h2 := (sv_bounds g1 (show (l'.length : Int) ≤ 5000 + dp' by omega)).1
    have h3 := (sv_bounds hL (show (l.length : Int) ≤ 5000 + dp by omega)).2
    have h4 : 2 ^ n ≤ 10 ^ 16 := Nat.le_trans (Nat.pow_le_pow_right (by omega) hn2) (by decide)
    have h5 : sv l dp * 2 ^ n < 10 ^ (5000 + dp).toNat * 10 ^ 16 := Nat.mul_lt_mul_of_lt_of_le h3 h4 (Nat.pow_pos (by omega))
    rw [← Nat.pow_add] at h5
    have := (Nat.pow_lt_pow_iff_right (a := 10) (by omega)).1 (Nat.lt_of_le_of_lt (Nat.le_trans h2 h1) h5)
    omega
/-- powtab, and 27 behind its end -/
def ptN (n : Nat) : Nat := if 9 ≤ n then 27 else [1, 3, 6, 9, 13, 16, 19, 23, 26].getD n 0
theorem ptN_fin : ∀ i : Fin 9, 1 ≤ ptN i.val ∧ ptN i.val ≤ 27 ∧ (0 < i.val → 2 ^ ptN i.val ≤ 10 ^ i.val) := by decide
theorem ptN_bd (n : Nat) : 1 ≤ ptN n ∧ ptN n ≤ 27 ∧ (0 < n → 2 ^ ptN n ≤ 10 ^ n) := by
  rcases Nat.lt_or_ge n 9 with h | h
  · exact ptN_fin ⟨n, h⟩
  · have e : ptN n = 27 := if_pos h
    rw [e]
    exact ⟨by omega, by omega, fun _ => Nat.le_trans (show 2 ^ 27 ≤ 10 ^ 9 by decide) (Nat.pow_le_pow_right (by omega) h)⟩
/-- a number below a half is moved left by powtab and stays below 1 -/
theorem left_stay {l : List Nat} {dp : Int} {M : Nat} (hM : M = 5000) (hL : Lead l) (hl : l.length ≤ 800) (d0 : -1500 ≤ dp) (d1 : dp ≤ 0) (hlt : dp = 0 → nth l 0 < 53) : sv l dp * 2 ^ ptN (-dp).toNat < 10 ^ M := by
  rcases Int.lt_or_le dp 0 with h | h
  · have h3 := (sv_bounds hL (show (l.length : Int) ≤ 5000 + dp by omega)).2
    have h4 := (ptN_bd (-dp).toNat).2.2 (by omega)
    have h5 : sv l dp * 2 ^ ptN (-dp).toNat < 10 ^ (5000 + dp).toNat * 10 ^ (-dp).toNat := Nat.mul_lt_mul_of_lt_of_le h3 h4 (Nat.pow_pos (by omega))
    rw [← Nat.pow_add, show (5000 + dp).toNat + (-dp).toNat = M by omega] at h5
    exact h5
  · have hd : dp = 0 := by omega
    have hx := hlt hd
    subst hd
    have e : ptN (-(0 : Int)).toNat = 1 := rfl
    rw [e]
    obtain ⟨c, r, rfl⟩ : ∃ c r, l = c :: r := by
      cases l with
      | nil => have := hL.2.1; simp at this
      | cons c r => exact ⟨c, r, rfl⟩
    have hc : c < 53 := by simpa [nth] using hx
    unfold sv
    rw [valD_cons, Int.add_zero]
    have hlr : (c :: r).length = r.length + 1 := List.length_cons
    obtain ⟨z, hz⟩ : ∃ z, z = (5000 - ((c :: r).length : Int)).toNat := ⟨_, rfl⟩
    rw [← hz]
    have h7 : r.length ≤ 900 := by omega
    rw [hlr] at hz
    have hMz := five_k hM hz h7
    have hr := valD_lt (l := r) (fun x hx => hL.1 x (by simp [hx]))
    have hT : 10 ^ M = 10 ^ r.length * 10 ^ z * 10 := by rw [hMz, Nat.pow_succ, Nat.pow_add]
    rw [hT, Nat.pow_one]
    have hzp : 0 < 10 ^ z := Nat.pow_pos (by omega)
    generalize 10 ^ z = Z at *
    generalize 10 ^ r.length = Y at *
    have h3 : (c - 48) * Y ≤ 4 * Y := Nat.mul_le_mul_right _ (by omega)
    have h4 : ((c - 48) * Y + valD r) * Z < 5 * Y * Z := Nat.mul_lt_mul_of_pos_right (by omega) hzp
    rw [Nat.mul_assoc 5] at h4
    omega

/-! ### the bits -/
theorem rn_lo {S P : Nat} {q L : Int} {F : Nat} (hP : P ≠ 0) (h : geP S P L) (hq : L = q + F) : 2 ^ F ≤ rnQ S P q := by
  rw [geP_iff (A := q.toNat + F) (B := (-q).toNat) (by omega), Nat.pow_add, ← Nat.mul_assoc] at h
  unfold rnQ rhe
  have h0 : 0 < P * 2 ^ q.toNat := Nat.mul_pos (by omega) (two_pos _)
  have := (Nat.le_div_iff_mul_le h0).2 (show 2 ^ F * (P * 2 ^ q.toNat) ≤ S * 2 ^ (-q).toNat by rw [Nat.mul_comm]; exact h)
  omega
theorem rn_hi {S P : Nat} {q L : Int} {k : Nat} (hP : P ≠ 0) (h : ¬ geP S P L) (hq : L = q + k) : rnQ S P q ≤ 2 ^ k := by
  have h1 := rnQ_bound h hq
  have h0 : 0 < P * 2 ^ q.toNat := Nat.mul_pos (by omega) (two_pos _)
  have h2 := (Nat.div_lt_iff_lt_mul h0).2 (show S * 2 ^ (-q).toNat < 2 ^ k * (P * 2 ^ q.toNat) by rw [Nat.mul_comm (2 ^ k)]; exact h1)
  have h3 := rhe_le (S * 2 ^ (-q).toNat) (P * 2 ^ q.toNat)
  unfold rnQ
  omega
theorem rung_val {F top M : Nat} {least : Int} {l : List Nat} {dp : Int} (hM : M = 5000) (hl : (l.length : Int) ≤ 5000 + dp) : rungQ F least top (numV l dp) (denV l dp) = rungQ F least top (sv l dp) (10 ^ M) :=
  rungQ_same (by have : 0 < denV l dp := Nat.pow_pos (by omega); omega) (by have : 0 < 10 ^ M := Nat.pow_pos (by omega); omega) (numV_sv hM hl)
theorem ten310b : ∃ a b : Nat, a = 310 ∧ b = 1024 ∧ 2 ^ b ≤ 10 ^ a := ⟨310, 1024, rfl, rfl, by decide +kernel⟩
theorem ten331b : ∃ a b : Nat, a = 331 ∧ b = 1076 ∧ 2 ^ b ≤ 10 ^ a := ⟨331, 1076, rfl, rfl, by decide +kernel⟩
theorem rung_big {F top M : Nat} {least : Int} {l : List Nat} {dp : Int} (hM : M = 5000) (hL : Lead l) (hl : l.length ≤ 800) (d0 : 311 ≤ dp) (hF : F ≤ 52) (le0 : -1074 ≤ least) (le1 : least ≤ 0) (ht : (top : Int) ≤ 1025 - F - least) : rungQ F least top (sv l dp) (10 ^ M) = top * 2 ^ F := by
  have b1 := (sv_bounds hL (show (l.length : Int) ≤ 5000 + dp by omega)).1
  have hp : 10 ^ M ≠ 0 := by have := Nat.pow_pos (n := M) (show 0 < 10 by omega); omega
  have hS : sv l dp ≠ 0 := by have := Nat.pow_pos (n := (5000 + dp - 1).toNat) (show 0 < 10 by omega); omega
  obtain ⟨a, b, ha, hb, hab⟩ := ten310b
  have hg : geP (sv l dp) (10 ^ M) (b : Int) := by
    rw [geP_iff (A := b) (B := 0) (by omega), Nat.pow_zero, Nat.mul_one]
    refine Nat.le_trans (Nat.mul_le_mul_left _ hab) ?_
    rw [← Nat.pow_add]
    exact Nat.le_trans (Nat.pow_le_pow_right (by omega) (by omega)) b1
  obtain ⟨g1, g2⟩ := lgQ_spec hS hp
  have hlg : (b : Int) ≤ lgQ (sv l dp) (10 ^ M) := by
    rcases Int.lt_or_le (lgQ (sv l dp) (10 ^ M)) b with h | h
    · exact absurd (geP_mono (by omega) hg) g2
    · exact h
  unfold rungQ
  rw [if_neg hS]
  have hq : qQ F least (sv l dp) (10 ^ M) = lgQ (sv l dp) (10 ^ M) - F := by unfold qQ; rw [Int.max_def]; split <;> omega
  have hlo := rn_lo (F := F) hp g1 (q := qQ F least (sv l dp) (10 ^ M)) (by omega)
  generalize rnQ (sv l dp) (10 ^ M) (qQ F least (sv l dp) (10 ^ M)) = r at *
  generalize qQ F least (sv l dp) (10 ^ M) = q at *
  have h3 : (top - 1) * 2 ^ F ≤ (q - least).toNat * 2 ^ F := Nat.mul_le_mul_right _ (by omega)
  have h4 : top * 2 ^ F ≤ (top - 1) * 2 ^ F + 2 ^ F := by
    rcases Nat.eq_zero_or_pos top with e | e
    · rw [e, Nat.zero_mul]; exact Nat.zero_le _
    · obtain ⟨t, rfl⟩ : ∃ t, top = t + 1 := ⟨top - 1, by omega⟩
      rw [Nat.add_sub_cancel, Nat.add_mul, Nat.one_mul]; exact Nat.le_refl _
  exact Nat.min_eq_right (Nat.le_trans h4 (Nat.add_le_add h3 hlo))
theorem rung_small {F top M : Nat} {least : Int} {l : List Nat} {dp : Int} (hM : M = 5000) (hL : Lead l) (hl : l.length ≤ 800) (d0 : -3000 ≤ dp) (d1 : dp ≤ -331) (hF : F ≤ 52) (le0 : -1074 ≤ least) (le1 : least ≤ 0) : rungQ F least top (sv l dp) (10 ^ M) = 0 := by
  obtain ⟨b1, b2⟩ := sv_bounds hL (show (l.length : Int) ≤ 5000 + dp by omega)
  have hp : 10 ^ M ≠ 0 := by have := Nat.pow_pos (n := M) (show 0 < 10 by omega); omega
  have hS : sv l dp ≠ 0 := by have := Nat.pow_pos (n := (5000 + dp - 1).toNat) (show 0 < 10 by omega); omega
  obtain ⟨a, b, ha, hb, hab⟩ := ten331b
  have hlt : sv l dp * 2 ^ b < 10 ^ M := by
    refine Nat.lt_of_lt_of_le (Nat.mul_lt_mul_of_lt_of_le b2 hab (Nat.pow_pos (by omega))) ?_
    rw [← Nat.pow_add]
    exact Nat.pow_le_pow_right (by omega) (by omega)
  have hg : ¬ geP (sv l dp) (10 ^ M) (-(b : Int)) := by
    rw [geP_iff (A := 0) (B := b) (by omega), Nat.pow_zero, Nat.mul_one]; omega
  obtain ⟨g1, g2⟩ := lgQ_spec hS hp
  have hlg : lgQ (sv l dp) (10 ^ M) < -(b : Int) := by
    rcases Int.lt_or_le (lgQ (sv l dp) (10 ^ M)) (-(b : Int)) with h | h
    · exact h
    · exact absurd (geP_mono h g1) hg
  unfold rungQ
  rw [if_neg hS]
  have hq : qQ F least (sv l dp) (10 ^ M) = least := by unfold qQ; rw [Int.max_def]; split <;> omega
  have hr : rnQ (sv l dp) (10 ^ M) least = 0 := by
    rw [rnQ_of (A := 0) (B := (-least).toNat) (by omega), Nat.pow_zero, Nat.mul_one]
    have h1 : sv l dp * 2 ^ (-least).toNat * 2 < 10 ^ M := by
      rw [Nat.mul_assoc, ← Nat.pow_succ]
      exact Nat.lt_of_le_of_lt (Nat.mul_le_mul_left _ (Nat.pow_le_pow_right (by omega) (by omega))) hlt
    unfold rhe
    rw [Nat.div_eq_of_lt (by omega), Nat.mod_eq_of_lt (by omega), if_neg (by omega)]
  rw [hq, hr, Int.sub_self]
  simp
/-- the end of the road: what is fixed of the answer -/
theorem rung_end {M S F top : Nat} {least L q : Int} (hS : S ≠ 0) (hLq : lgQ S (10 ^ M) = L) (hq : q = max (L - F) least) : rungQ F least top S (10 ^ M) = min ((q - least).toNat * 2 ^ F + rnQ S (10 ^ M) q) (top * 2 ^ F) ∧ rnQ S (10 ^ M) q ≤ 2 ^ (F + 1) ∧ (q = least ∨ 2 ^ F ≤ rnQ S (10 ^ M) q) ∧ least ≤ q := by
  have hp : 10 ^ M ≠ 0 := by have := Nat.pow_pos (n := M) (show 0 < 10 by omega); omega
  obtain ⟨g1, g2⟩ := lgQ_spec hS hp
  rw [hLq] at g1 g2
  have hqq : qQ F least S (10 ^ M) = q := by unfold qQ; rw [hLq, hq]
  have h1 : least ≤ q := by rw [hq]; exact Int.le_max_right _ _
  have h2 : L - F ≤ q := by rw [hq]; exact Int.le_max_left _ _
  refine ⟨by unfold rungQ; rw [if_neg hS, hqq], ?_, ?_, h1⟩
  · exact rn_hi hp (fun h => g2 (geP_mono (show L + 1 ≤ q + ((F + 1 : Nat) : Int) by omega) h)) rfl
  · rw [Int.max_def] at hq
    split at hq
    · exact .inl hq
    · exact .inr (rn_lo hp g1 (by omega))
end Go.Proofs.YtfndpecffhempaaDoor
