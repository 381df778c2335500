/- Plain facts on the slow road: the point's way, the two ends, the bits. No function of the program is walked here. -/
import Derived.Test.YtfndpecffhempaaDoorFbS
namespace Go.Proofs.YtfndpecffhempaaDoor
open Go.RowKit

theorem shP_dp {l l' : List Nat} {dp dp' : Int} {tr tr' : Bool} {k : Nat} (left : Bool) (hL : Lead l) (hl : l.length ≤ 800) (d0 : -3000 ≤ dp) (h : ShP l dp tr (if left then 2 ^ k else 1) (if left then 1 else 2 ^ k) l' dp' tr') : if left then dp ≤ dp' else dp' ≤ dp := by
  obtain ⟨FF, hF, hFl, rfl, hsv, rfl, p1, p2⟩ := h
  obtain ⟨a1, a2⟩ := sv_bounds hL (show (l.length : Int) ≤ 5000 + dp by omega)
  obtain ⟨b1, b2⟩ := sv_bounds hF (show (FF.length : Int) ≤ 5000 + dp' by omega)
  have hk := two_pos k
  cases left
  · simp only [Bool.false_eq_true, if_false] at hsv ⊢
    have h1 : sv FF dp' ≤ sv FF dp' * 2 ^ k := Nat.le_mul_of_pos_right _ hk
    have := (Nat.pow_lt_pow_iff_right (a := 10) (by omega)).1 (Nat.lt_of_le_of_lt (Nat.le_trans b1 h1) (by rw [hsv, Nat.mul_one]; exact a2))
    omega
  · simp only [if_true] at hsv ⊢
    have h1 : sv l dp ≤ sv l dp * 2 ^ k := Nat.le_mul_of_pos_right _ hk
    have := (Nat.pow_lt_pow_iff_right (a := 10) (by omega)).1 (Nat.lt_of_le_of_lt (Nat.le_trans a1 h1) (by rw [← hsv, Nat.mul_one]; exact b2))
    omega
theorem shC_dp (left : Bool) (ks : List Nat) : ∀ {l l' : List Nat} {dp dp' : Int} {tr tr' : Bool}, ShC left ks l dp tr l' dp' tr' → Lead l → l.length ≤ 800 → -3000 + 20 * (ks.length : Int) ≤ dp → if left then dp ≤ dp' else dp' ≤ dp := by
  induction ks with
  | nil => intro l l' dp dp' tr tr' h _ _ _; obtain ⟨_, rfl, _⟩ := h; cases left <;> simp
  | cons k ks ih =>
    intro l l' dp dp' tr tr' h hL hl d0
    obtain ⟨l1, dp1, tr1, hp, hc⟩ := h
    rw [List.length_cons] at d0
    have h1 := shP_dp left hL hl (by omega) hp
    obtain ⟨g1, g2, _⟩ := hp.lead
    obtain ⟨_, _, _, _, _, _, p1, p2⟩ := hp
    have h2 := ih hc g1 g2 (by omega)
    cases left
    · simp only [Bool.false_eq_true, if_false] at h1 h2 ⊢; omega
    · simp only [if_true] at h1 h2 ⊢; omega
theorem shK_dp {l l' : List Nat} {dp dp' K : Int} {tr tr' : Bool} (h : ShK l dp tr K l' dp' tr') (hL : Lead l) (hl : l.length ≤ 800) (d0 : -1500 ≤ dp) (k0 : -1140 ≤ K) (k1 : K ≤ 1140) : (0 ≤ K → dp ≤ dp') ∧ (K ≤ 0 → dp' ≤ dp) := by
  rcases h with ⟨h0, rfl, rfl, rfl⟩ | ⟨h0, hK, ks, hk, hs, hn, hc⟩
  · exact ⟨fun _ => by omega, fun _ => by omega⟩
  · have := shC_dp _ ks hc hL hl (by omega)
    rcases Int.lt_trichotomy K 0 with hK2 | hK2 | hK2
    · rw [decide_eq_false (show ¬ 0 < K by omega)] at this
      simp only [Bool.false_eq_true, if_false] at this
      exact ⟨fun h => by omega, fun _ => this⟩
    · exact absurd hK2 hK
    · rw [decide_eq_true hK2] at this
      simp only [if_true] at this
      exact ⟨fun _ => this, fun h => by omega⟩
theorem shK_last {l l' : List Nat} {dp dp' K : Int} {tr tr' : Bool} (h : ShK l dp tr K l' dp' tr') (h0 : l.length ≠ 0) (hK : K ≠ 0) : nth l' (l'.length - 1) ≠ 48 := by
  rcases h with ⟨h1, _⟩ | ⟨_, _, ks, hk, hs, hn, hc⟩
  · omega
  · cases ks with
    | nil => rw [List.sum_nil] at hs; omega
    | cons k ks => obtain ⟨l1, dp1, tr1, hp, hc2⟩ := hc; exact hc2.last hp.lead.2.2
/-- a number below 1 times 2^n, n at most 53 -/
theorem left_dp16 {l l' : List Nat} {dp dp' : Int} {tr tr' : Bool} {n : Nat} (h : ShK l dp tr (n : Int) l' dp' tr') (hn : 1 ≤ n) (hn2 : n ≤ 53) (hL : Lead l) (hl : l.length ≤ 800) (d0 : -1500 ≤ dp) (d1 : dp ≤ 0) : dp' ≤ 16 := by
  rcases h with ⟨h0, rfl, rfl, rfl⟩ | ⟨h0, hK, ks, hk, hs, hnn, hc⟩
  · omega
  · rw [decide_eq_true (show (0 : Int) < (n : Int) by omega)] at hc
    obtain ⟨g1, g2, g3, g4⟩ := hc.lead hL hl
    have h1 := shC_left_le ks hc hl (by omega)
    rw [show ks.sum = n by omega] at h1
    have h2 := (sv_bounds g1 (show (l'.length : Int) ≤ 5000 + dp' by omega)).1
    have h3 := (sv_bounds hL (show (l.length : Int) ≤ 5000 + dp by omega)).2
    have h4 : 2 ^ n ≤ 10 ^ 16 := Nat.le_trans (Nat.pow_le_pow_right (by omega) hn2) (by decide)
    have h5 : sv l dp * 2 ^ n < 10 ^ (5000 + dp).toNat * 10 ^ 16 := Nat.mul_lt_mul_of_lt_of_le h3 h4 (Nat.pow_pos (by omega))
    rw [← Nat.pow_add] at h5
    have := (Nat.pow_lt_pow_iff_right (a := 10) (by omega)).1 (Nat.lt_of_le_of_lt (Nat.le_trans h2 h1) h5)
    omega
/-- powtab, and 27 behind its end -/
def ptN (n : Nat) : Nat := if 9 ≤ n then 27 else [1, 3, 6, 9, 13, 16, 19, 23, 26].getD n 0
theorem ptN_fin : ∀ i : Fin 9, 1 ≤ ptN i.val ∧ ptN i.val ≤ 27 ∧ (0 < i.val → 2 ^ ptN i.val ≤ 10 ^ i.val) := by decide
theorem ptN_bd (n : Nat) : 1 ≤ ptN n ∧ ptN n ≤ 27 ∧ (0 < n → 2 ^ ptN n ≤ 10 ^ n) := by
  rcases Nat.lt_or_ge n 9 with h | h
  · exact ptN_fin ⟨n, h⟩
  · have e : ptN n = 27 := if_pos h
    rw [e]
    exact ⟨by omega, by omega, fun _ => Nat.le_trans (show 2 ^ 27 ≤ 10 ^ 9 by decide) (Nat.pow_le_pow_right (by omega) h)⟩
/-- a number below a half is moved left by powtab and stays below 1 -/
theorem left_stay {l : List Nat} {dp : Int} {M : Nat} (hM : M = 5000) (hL : Lead l) (hl : l.length ≤ 800) (d0 : -1500 ≤ dp) (d1 : dp ≤ 0) (hlt : dp = 0 → nth l 0 < 53) : sv l dp * 2 ^ ptN (-dp).toNat < 10 ^ M := by
  rcases Int.lt_or_le dp 0 with h | h
  · have h3 := (sv_bounds hL (show (l.length : Int) ≤ 5000 + dp by omega)).2
    have h4 := (ptN_bd (-dp).toNat).2.2 (by omega)
    have h5 : sv l dp * 2 ^ ptN (-dp).toNat < 10 ^ (5000 + dp).toNat * 10 ^ (-dp).toNat := Nat.mul_lt_mul_of_lt_of_le h3 h4 (Nat.pow_pos (by omega))
    rw [← Nat.pow_add, show (5000 + dp).toNat + (-dp).toNat = M by omega] at h5
    exact h5
  · have hd : dp = 0 := by omega
    have hx := hlt hd
    subst hd
    have e : ptN (-(0 : Int)).toNat = 1 := rfl
    rw [e]
    obtain ⟨c, r, rfl⟩ : ∃ c r, l = c :: r := by
      cases l with
      | nil => have := hL.2.1; simp at this
      | cons c r => exact ⟨c, r, rfl⟩
    have hc : c < 53 := by simpa [nth] using hx
    unfold sv
    rw [valD_cons, Int.add_zero]
    have hlr : (c :: r).length = r.length + 1 := List.length_cons
    obtain ⟨z, hz⟩ : ∃ z, z = (5000 - ((c :: r).length : Int)).toNat := ⟨_, rfl⟩
    rw [← hz]
    have h7 : r.length ≤ 900 := by omega
    rw [hlr] at hz
    have hMz := five_k hM hz h7
    have hr := valD_lt (l := r) (fun x hx => hL.1 x (by simp [hx]))
    have hT : 10 ^ M = 10 ^ r.length * 10 ^ z * 10 := by rw [hMz, Nat.pow_succ, Nat.pow_add]
    rw [hT, Nat.pow_one]
    have hzp : 0 < 10 ^ z := Nat.pow_pos (by omega)
    generalize 10 ^ z = Z at *
    generalize 10 ^ r.length = Y at *
    have h3 : (c - 48) * Y ≤ 4 * Y := Nat.mul_le_mul_right _ (by omega)
    have h4 : ((c - 48) * Y + valD r) * Z < 5 * Y * Z := Nat.mul_lt_mul_of_pos_right (by omega) hzp
    rw [Nat.mul_assoc 5] at h4
    omega

/-! ### the bits -/
theorem rn_lo {S P : Nat} {q L : Int} {F : Nat} (hP : P ≠ 0) (h : geP S P L) (hq : L = q + F) : 2 ^ F ≤ rnQ S P q := by
  rw [geP_iff (A := q.toNat + F) (B := (-q).toNat) (by omega), Nat.pow_add, ← Nat.mul_assoc] at h
  unfold rnQ rhe
  have h0 : 0 < P * 2 ^ q.toNat := Nat.mul_pos (by omega) (two_pos _)
  have := (Nat.le_div_iff_mul_le h0).2 (show 2 ^ F * (P * 2 ^ q.toNat) ≤ S * 2 ^ (-q).toNat by rw [Nat.mul_comm]; exact h)
  omega
theorem rn_hi {S P : Nat} {q L : Int} {k : Nat} (hP : P ≠ 0) (h : ¬ geP S P L) (hq : L = q + k) : rnQ S P q ≤ 2 ^ k := by
  have h1 := rnQ_bound h hq
  have h0 : 0 < P * 2 ^ q.toNat := Nat.mul_pos (by omega) (two_pos _)
  have h2 := (Nat.div_lt_iff_lt_mul h0).2 (show S * 2 ^ (-q).toNat < 2 ^ k * (P * 2 ^ q.toNat) by rw [Nat.mul_comm (2 ^ k)]; exact h1)
  have h3 := rhe_le (S * 2 ^ (-q).toNat) (P * 2 ^ q.toNat)
  unfold rnQ
  omega
theorem rung_val {F top M : Nat} {least : Int} {l : List Nat} {dp : Int} (hM : M = 5000) (hl : (l.length : Int) ≤ 5000 + dp) : rungQ F least top (numV l dp) (denV l dp) = rungQ F least top (sv l dp) (10 ^ M) :=
  rungQ_same (by have : 0 < denV l dp := Nat.pow_pos (by omega); omega) (by have : 0 < 10 ^ M := Nat.pow_pos (by omega); omega) (numV_sv hM hl)
theorem ten310b : ∃ a b : Nat, a = 310 ∧ b = 1024 ∧ 2 ^ b ≤ 10 ^ a := ⟨310, 1024, rfl, rfl, by decide +kernel⟩
theorem ten331b : ∃ a b : Nat, a = 331 ∧ b = 1076 ∧ 2 ^ b ≤ 10 ^ a := ⟨331, 1076, rfl, rfl, by decide +kernel⟩
theorem rung_big {F top M : Nat} {least : Int} {l : List Nat} {dp : Int} (hM : M = 5000) (hL : Lead l) (hl : l.length ≤ 800) (d0 : 311 ≤ dp) (hF : F ≤ 52) (le0 : -1074 ≤ least) (le1 : least ≤ 0) (ht : (top : Int) ≤ 1025 - F - least) : rungQ F least top (sv l dp) (10 ^ M) = top * 2 ^ F := by
  have b1 := (sv_bounds hL (show (l.length : Int) ≤ 5000 + dp by omega)).1
  have hp : 10 ^ M ≠ 0 := by have := Nat.pow_pos (n := M) (show 0 < 10 by omega); omega
  have hS : sv l dp ≠ 0 := by have := Nat.pow_pos (n := (5000 + dp - 1).toNat) (show 0 < 10 by omega); omega
  obtain ⟨a, b, ha, hb, hab⟩ := ten310b
  have hg : geP (sv l dp) (10 ^ M) (b : Int) := by
    rw [geP_iff (A := b) (B := 0) (by omega), Nat.pow_zero, Nat.mul_one]
    refine Nat.le_trans (Nat.mul_le_mul_left _ hab) ?_
    rw [← Nat.pow_add]
    exact Nat.le_trans (Nat.pow_le_pow_right (by omega) (by omega)) b1
  obtain ⟨g1, g2⟩ := lgQ_spec hS hp
  have hlg : (b : Int) ≤ lgQ (sv l dp) (10 ^ M) := by
    rcases Int.lt_or_le (lgQ (sv l dp) (10 ^ M)) b with h | h
    · exact absurd (geP_mono (by omega) hg) g2
    · exact h
  unfold rungQ
  rw [if_neg hS]
  have hq : qQ F least (sv l dp) (10 ^ M) = lgQ (sv l dp) (10 ^ M) - F := by unfold qQ; rw [Int.max_def]; split <;> omega
  have hlo := rn_lo (F := F) hp g1 (q := qQ F least (sv l dp) (10 ^ M)) (by omega)
  generalize rnQ (sv l dp) (10 ^ M) (qQ F least (sv l dp) (10 ^ M)) = r at *
  generalize qQ F least (sv l dp) (10 ^ M) = q at *
  have h3 : (top - 1) * 2 ^ F ≤ (q - least).toNat * 2 ^ F := Nat.mul_le_mul_right _ (by omega)
  have h4 : top * 2 ^ F ≤ (top - 1) * 2 ^ F + 2 ^ F := by
    rcases Nat.eq_zero_or_pos top with e | e
    · rw [e, Nat.zero_mul]; exact Nat.zero_le _
    · obtain ⟨t, rfl⟩ : ∃ t, top = t + 1 := ⟨top - 1, by omega⟩
      rw [Nat.add_sub_cancel, Nat.add_mul, Nat.one_mul]; exact Nat.le_refl _
  exact Nat.min_eq_right (Nat.le_trans h4 (Nat.add_le_add h3 hlo))
theorem rung_small {F top M : Nat} {least : Int} {l : List Nat} {dp : Int} (hM : M = 5000) (hL : Lead l) (hl : l.length ≤ 800) (d0 : -3000 ≤ dp) (d1 : dp ≤ -331) (hF : F ≤ 52) (le0 : -1074 ≤ least) (le1 : least ≤ 0) : rungQ F least top (sv l dp) (10 ^ M) = 0 := by
  obtain ⟨b1, b2⟩ := sv_bounds hL (show (l.length : Int) ≤ 5000 + dp by omega)
  have hp : 10 ^ M ≠ 0 := by have := Nat.pow_pos (n := M) (show 0 < 10 by omega); omega
  have hS : sv l dp ≠ 0 := by have := Nat.pow_pos (n := (5000 + dp - 1).toNat) (show 0 < 10 by omega); omega
  obtain ⟨a, b, ha, hb, hab⟩ := ten331b
  have hlt : sv l dp * 2 ^ b < 10 ^ M := by
    refine Nat.lt_of_lt_of_le (Nat.mul_lt_mul_of_lt_of_le b2 hab (Nat.pow_pos (by omega))) ?_
    rw [← Nat.pow_add]
    exact Nat.pow_le_pow_right (by omega) (by omega)
  have hg : ¬ geP (sv l dp) (10 ^ M) (-(b : Int)) := by
    rw [geP_iff (A := 0) (B := b) (by omega), Nat.pow_zero, Nat.mul_one]; omega
  obtain ⟨g1, g2⟩ := lgQ_spec hS hp
  have hlg : lgQ (sv l dp) (10 ^ M) < -(b : Int) := by
    rcases Int.lt_or_le (lgQ (sv l dp) (10 ^ M)) (-(b : Int)) with h | h
    · exact h
    · exact absurd (geP_mono h g1) hg
  unfold rungQ
  rw [if_neg hS]
  have hq : qQ F least (sv l dp) (10 ^ M) = least := by unfold qQ; rw [Int.max_def]; split <;> omega
  have hr : rnQ (sv l dp) (10 ^ M) least = 0 := by
    rw [rnQ_of (A := 0) (B := (-least).toNat) (by omega), Nat.pow_zero, Nat.mul_one]
    have h1 : sv l dp * 2 ^ (-least).toNat * 2 < 10 ^ M := by
      rw [Nat.mul_assoc, ← Nat.pow_succ]
      exact Nat.lt_of_le_of_lt (Nat.mul_le_mul_left _ (Nat.pow_le_pow_right (by omega) (by omega))) hlt
    unfold rhe
    rw [Nat.div_eq_of_lt (by omega), Nat.mod_eq_of_lt (by omega), if_neg (by omega)]
  rw [hq, hr, Int.sub_self]
  simp
/-- the end of the road: what is fixed of the answer -/
theorem rung_end {M S F top : Nat} {least L q : Int} (hS : S ≠ 0) (hLq : lgQ S (10 ^ M) = L) (hq : q = max (L - F) least) : rungQ F least top S (10 ^ M) = min ((q - least).toNat * 2 ^ F + rnQ S (10 ^ M) q) (top * 2 ^ F) ∧ rnQ S (10 ^ M) q ≤ 2 ^ (F + 1) ∧ (q = least ∨ 2 ^ F ≤ rnQ S (10 ^ M) q) ∧ least ≤ q := by
  have hp : 10 ^ M ≠ 0 := by have := Nat.pow_pos (n := M) (show 0 < 10 by omega); omega
  obtain ⟨g1, g2⟩ := lgQ_spec hS hp
  rw [hLq] at g1 g2
  have hqq : qQ F least S (10 ^ M) = q := by unfold qQ; rw [hLq, hq]
  have h1 : least ≤ q := by rw [hq]; exact Int.le_max_right _ _
  have h2 : L - F ≤ q := by rw [hq]; exact Int.le_max_left _ _
  refine ⟨by unfold rungQ; rw [if_neg hS, hqq], ?_, ?_, h1⟩
  · exact rn_hi hp (fun h => g2 (geP_mono (show L + 1 ≤ q + ((F + 1 : Nat) : Int) by omega) h)) rfl
  · rw [Int.max_def] at hq
    split at hq
    · exact .inl hq
    · exact .inr (rn_lo hp g1 (by omega))
end Go.Proofs.YtfndpecffhempaaDoor
