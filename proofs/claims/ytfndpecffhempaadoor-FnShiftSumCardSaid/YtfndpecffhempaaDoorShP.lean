/- Plain facts on shifting decimal digits: what leftShift and rightShift write, digit by digit. No function of the program is walked here. -/
import Derived.Test.YtfndpecffhempaaDoorVD
import Derived.Test.YtfndpecffhempaaDoorSDec
namespace Go.Proofs.YtfndpecffhempaaDoor
open Go.RowKit

/-- digits, at least one, the first not 0 -/
def Lead (l : List Nat) : Prop := Digs l ∧ 0 < l.length ∧ nth l 0 ≠ 48
theorem valD_cons (c : Nat) (r : List Nat) : valD (c :: r) = (c - 48) * 10 ^ r.length + valD r := by
  have := valD_append [c] r
  rw [List.singleton_append] at this
  rw [this]; simp [valD]
theorem Lead.ge {l : List Nat} (h : Lead l) : 10 ^ (l.length - 1) ≤ valD l := by
  obtain ⟨h1, h2, h3⟩ := h
  cases l with
  | nil => simp at h2
  | cons c r =>
    have hc := h1 c (by simp)
    have h3' : c ≠ 48 := by simpa [nth] using h3
    rw [valD_cons, List.length_cons, Nat.add_sub_cancel]
    have : 1 * 10 ^ r.length ≤ (c - 48) * 10 ^ r.length := Nat.mul_le_mul_right _ (by omega)
    omega
theorem Lead.lt {l : List Nat} (h : Lead l) : valD l < 10 ^ l.length := valD_lt h.1
theorem Lead.pos {l : List Nat} (h : Lead l) : 0 < valD l := Nat.lt_of_lt_of_le (Nat.pow_pos (by omega)) h.ge
theorem list_ext {a b : List Nat} (hl : a.length = b.length) (h : ∀ i, i < a.length → nth a i = nth b i) : a = b := by
  apply List.ext_getElem hl
  intro i h1 h2
  have := h i h1
  rwa [nth_eq h1, nth_eq h2] at this

/-- the last m decimal digits of M, the highest first -/
def dgs : Nat → Nat → List Nat
  | 0, _ => []
  | m + 1, M => dgs m (M / 10) ++ [48 + M % 10]
theorem dgs_len (m M : Nat) : (dgs m M).length = m := by
  induction m generalizing M with
  | zero => rfl
  | succ m ih => simp [dgs, ih]
theorem dgs_digs (m M : Nat) : Digs (dgs m M) := by
  induction m generalizing M with
  | zero => intro x hx; simp [dgs] at hx
  | succ m ih => exact digs_append (ih _) (fun x hx => by simp at hx; omega)
theorem nth_append_left {a b : List Nat} {i : Nat} (h : i < a.length) : nth (a ++ b) i = nth a i := by
  simp [nth, List.getD_eq_getElem?_getD, List.getElem?_append_left h]
theorem dgs_nth (m M j : Nat) (h : j < m) : nth (dgs m M) j = 48 + M / 10 ^ (m - 1 - j) % 10 := by
  induction m generalizing M with
  | zero => omega
  | succ m ih =>
    rw [dgs]
    by_cases hj : j < m
    · rw [nth_append_left (by rw [dgs_len]; exact hj), ih _ hj, Nat.div_div_eq_div_mul, ← Nat.pow_succ', show (m - 1 - j).succ = m + 1 - 1 - j by omega]
    · obtain rfl : j = m := by omega
      have hl := dgs_len j (M / 10)
      simp [nth, List.getD_eq_getElem?_getD, hl]
theorem dgs_val (m M : Nat) : valD (dgs m M) = M % 10 ^ m := by
  induction m generalizing M with
  | zero => simp [dgs, valD, Nat.mod_one]
  | succ m ih =>
    rw [dgs, valD_snoc, ih, Nat.add_sub_cancel_left, Nat.pow_succ', Nat.mod_mul]
    omega
theorem dgs_drop (m M k : Nat) (h : k ≤ m) : (dgs m M).drop k = dgs (m - k) M := by
  apply list_ext
  · rw [List.length_drop, dgs_len, dgs_len]
  · intro i hi
    rw [List.length_drop, dgs_len] at hi
    have e : nth ((dgs m M).drop k) i = nth (dgs m M) (k + i) := by simp [nth, List.getD_eq_getElem?_getD]
    rw [e, dgs_nth _ _ _ (by omega), dgs_nth _ _ _ hi, show m - 1 - (k + i) = m - k - 1 - i by omega]
theorem dgs_lead {m M : Nat} (h0 : 0 < m) (h1 : 10 ^ (m - 1) ≤ M) (h2 : M < 10 ^ m) : Lead (dgs m M) := by
  refine ⟨dgs_digs m M, by rw [dgs_len]; exact h0, ?_⟩
  rw [dgs_nth _ _ _ h0, Nat.sub_zero]
  have hp : 0 < 10 ^ (m - 1) := Nat.pow_pos (by omega)
  have h3 : 1 ≤ M / 10 ^ (m - 1) := (Nat.le_div_iff_mul_le hp).2 (by omega)
  have h4 : M / 10 ^ (m - 1) < 10 := by
    rw [Nat.div_lt_iff_lt_mul hp, ← Nat.pow_succ', show (m - 1).succ = m by omega]; exact h2
  omega
theorem drop_dig {l : List Nat} {r : Nat} (h : r < l.length) : valD (l.drop r) = (nth l r - 48) * 10 ^ (l.length - r - 1) + valD (l.drop (r + 1)) := by
  rw [List.drop_eq_getElem_cons h, valD_cons, nth_eq h, List.length_drop, Nat.sub_sub]

/-! ### leftShift -/
/-- the carry in front of place i (counted from behind) -/
def cL (l : List Nat) (k i : Nat) : Nat := valD (l.drop (l.length - i)) * 2 ^ k / 10 ^ i
theorem cL_zero (l : List Nat) (k : Nat) : cL l k 0 = 0 := by unfold cL; simp [valD]
theorem cL_lt {l : List Nat} (h : Digs l) (k i : Nat) (hi : i ≤ l.length) : cL l k i < 2 ^ k := by
  unfold cL
  rw [Nat.div_lt_iff_lt_mul (Nat.pow_pos (by omega)), Nat.mul_comm (2 ^ k)]
  have := valD_lt (digs_drop h (l.length - i))
  rw [List.length_drop, show l.length - (l.length - i) = i by omega] at this
  exact Nat.mul_lt_mul_of_pos_right this (Nat.pow_pos (by omega))
theorem cL_step {l : List Nat} (k i : Nat) (hi : i < l.length) : (cL l k i + (nth l (l.length - 1 - i) - 48) * 2 ^ k) / 10 = cL l k (i + 1) ∧ (cL l k i + (nth l (l.length - 1 - i) - 48) * 2 ^ k) % 10 = valD l * 2 ^ k / 10 ^ i % 10 := by
  have e1 : l.length - (i + 1) = l.length - 1 - i := by omega
  have e2 : l.length - i = l.length - 1 - i + 1 := by omega
  have e3 : l.length - (l.length - 1 - i) - 1 = i := by omega
  have hd := drop_dig (l := l) (r := l.length - 1 - i) (by omega)
  rw [e3] at hd
  have hp : 0 < 10 ^ i := Nat.pow_pos (by omega)
  have hA : cL l k i + (nth l (l.length - 1 - i) - 48) * 2 ^ k = valD (l.drop (l.length - 1 - i)) * 2 ^ k / 10 ^ i := by
    unfold cL
    rw [e2, hd, Nat.add_mul, Nat.mul_right_comm, Nat.add_comm (_ * 10 ^ i), Nat.add_mul_div_right _ _ hp]
  rw [hA]
  refine ⟨by unfold cL; rw [e1, Nat.div_div_eq_div_mul, ← Nat.pow_succ], ?_⟩
  have hs : valD l = valD (l.take (l.length - 1 - i)) * 10 ^ (i + 1) + valD (l.drop (l.length - 1 - i)) := by
    have := valD_append (l.take (l.length - 1 - i)) (l.drop (l.length - 1 - i))
    rw [List.take_append_drop, List.length_drop, show l.length - (l.length - 1 - i) = i + 1 by omega] at this
    exact this
  rw [hs, Nat.add_mul, Nat.pow_succ, Nat.mul_right_comm, ← Nat.mul_assoc, Nat.mul_right_comm _ (10 ^ i) 10, Nat.add_comm (_ * 10 ^ i), Nat.add_mul_div_right _ _ hp]
  omega
theorem cL_end (l : List Nat) (k : Nat) : cL l k l.length = valD l * 2 ^ k / 10 ^ l.length := by unfold cL; simp

/-- i digits of the product are written, from behind; those of l that are not read stand -/
def LSt (l : List Nat) (k m i : Nat) (D : List Nat) : Prop :=
  (∀ j, j < m → m ≤ j + i → j < 800 → nth D j = nth (dgs m (valD l * 2 ^ k)) j) ∧ (∀ j, j + i < l.length → nth D j = nth l j)
/-- was a digit that is not 0 cut off among i digits? -/
def trL (m M i : Nat) : Bool := decide (M % 10 ^ min i (m - 800) ≠ 0)
theorem trL_zero (m M : Nat) : trL m M 0 = false := by unfold trL; simp [Nat.mod_one]
theorem trL_keep {m M i : Nat} (h : m - 1 - i < 800) (hi : i < m) : trL m M (i + 1) = trL m M i := by
  unfold trL; rw [show min (i + 1) (m - 800) = min i (m - 800) by omega]
theorem trL_cut {m M i : Nat} (h : 800 ≤ m - 1 - i) : trL m M (i + 1) = (trL m M i || decide (M / 10 ^ i % 10 ≠ 0)) := by
  unfold trL
  rw [show min (i + 1) (m - 800) = i + 1 by omega, show min i (m - 800) = i by omega, Nat.pow_succ, Nat.mod_mul]
  have hp : 0 < 10 ^ i := Nat.pow_pos (by omega)
  by_cases h1 : M % 10 ^ i = 0
  · rw [h1]
    by_cases h2 : M / 10 ^ i % 10 = 0
    · simp [h2]
    · have : 10 ^ i * (M / 10 ^ i % 10) ≠ 0 := Nat.mul_ne_zero (by omega) h2
      simp only [Nat.zero_add, ne_eq, this, h2]; decide
  · rw [decide_eq_true (p := M % 10 ^ i + 10 ^ i * (M / 10 ^ i % 10) ≠ 0) (by omega), decide_eq_true (p := M % 10 ^ i ≠ 0) h1]; rfl
theorem nth_set_ (D : List Nat) (p x j : Nat) (h : p < D.length) : nth (D.set p x) j = if p = j then x else nth D j := by
  simp only [nth, List.getD_eq_getElem?_getD, List.getElem?_set]
  by_cases e : p = j
  · subst e; simp [h]
  · simp [e]
theorem LSt.start {l D : List Nat} {k m : Nat} (h : D.take l.length = l) : LSt l k m 0 D :=
  ⟨fun j h1 h2 _ => by omega, fun j hj => by conv => rhs; rw [← h]
                                             rw [nth_take (by omega)]⟩
theorem LSt.put {l D : List Nat} {k m i : Nat} (h : LSt l k m i D) (hD : D.length = 800) (hi : i < m) (hm : l.length ≤ m) (h8 : m - 1 - i < 800) : LSt l k m (i + 1) (D.set (m - 1 - i) (48 + valD l * 2 ^ k / 10 ^ i % 10)) := by
  refine ⟨fun j h1 h2 h3 => ?_, fun j hj => ?_⟩
  · rw [nth_set_ _ _ _ _ (by omega)]
    by_cases e : m - 1 - i = j
    · rw [if_pos e, dgs_nth _ _ _ h1, show m - 1 - j = i by omega]
    · rw [if_neg e]; exact h.1 j h1 (by omega) h3
  · rw [nth_set_ _ _ _ _ (by omega), if_neg (by omega)]; exact h.2 j (by omega)
theorem LSt.skip {l D : List Nat} {k m i : Nat} (h : LSt l k m i D) (_hi : i < m) (h8 : 800 ≤ m - 1 - i) : LSt l k m (i + 1) D :=
  ⟨fun j h1 h2 h3 => by rcases (show m ≤ j + i ∨ j = m - 1 - i by omega) with e | e
                        · exact h.1 j h1 e h3
                        · omega, fun j hj => h.2 j (by omega)⟩
theorem LSt.done {l D : List Nat} {k m : Nat} (h : LSt l k m m D) (hD : D.length = 800) : D.take (min m 800) = (dgs m (valD l * 2 ^ k)).take 800 := by
  apply list_ext
  · simp [dgs_len, hD]; omega
  · intro i hi
    have hi' : i < min m 800 := by simp [hD] at hi; omega
    rw [nth_take hi', nth_take (by omega)]
    exact h.1 i (by omega) (by omega) (by omega)

/-! ### rightShift -/
/-- the first r digits, zeros behind the end -/
def pR (l : List Nat) (r : Nat) : Nat := valD (l.take r) * 10 ^ (r - l.length)
def dR (l : List Nat) (r : Nat) : Nat := if r < l.length then nth l r - 48 else 0
theorem pR_zero (l : List Nat) : pR l 0 = 0 := by simp [pR, valD]
theorem dR_le {l : List Nat} (h : Digs l) (r : Nat) : dR l r ≤ 9 := by
  unfold dR
  split
  · rename_i hr; have := digs_nth h hr; omega
  · omega
theorem pR_succ (l : List Nat) (r : Nat) : pR l (r + 1) = 10 * pR l r + dR l r := by
  unfold pR dR
  by_cases h : r < l.length
  · rw [if_pos h, take_snoc_nth l h, valD_snoc, show r + 1 - l.length = 0 by omega, show r - l.length = 0 by omega]; simp
  · rw [if_neg h, List.take_of_length_le (by omega), List.take_of_length_le (by omega), show r + 1 - l.length = (r - l.length).succ by omega, Nat.pow_succ, ← Nat.mul_assoc]
    omega
theorem pR_end (l : List Nat) {r : Nat} (h : l.length ≤ r) : pR l r = valD l * 10 ^ (r - l.length) := by unfold pR; rw [List.take_of_length_le h]
theorem pR_mono (l : List Nat) {a b : Nat} (h : a ≤ b) : pR l a ≤ pR l b := by
  induction b with
  | zero => have : a = 0 := by omega
            subst this; exact Nat.le_refl _
  | succ b ih =>
    rcases Nat.lt_or_ge b a with h1 | h1
    · have : a = b + 1 := by omega
      subst this; exact Nat.le_refl _
    · have := ih h1; rw [pR_succ]; omega
/-- what is carried on at place r (r at least 1) -/
def nR (l : List Nat) (k r : Nat) : Nat := 10 * (pR l (r - 1) % 2 ^ k) + dR l (r - 1)
theorem nR_lt {l : List Nat} (h : Digs l) (k r : Nat) : nR l k r < 10 * 2 ^ k := by
  unfold nR
  have h1 := dR_le h (r - 1)
  have h2 := Nat.mod_lt (pR l (r - 1)) (show 0 < 2 ^ k from Nat.pow_pos (by omega))
  omega
theorem nR_first {l : List Nat} {k r : Nat} (h0 : 0 < r) (h : pR l (r - 1) < 2 ^ k) : nR l k r = pR l r := by
  obtain ⟨s, rfl⟩ : ∃ s, r = s + 1 := ⟨r - 1, by omega⟩
  unfold nR
  rw [pR_succ, Nat.add_sub_cancel, Nat.mod_eq_of_lt (by simpa using h)]
theorem nR_parts {l : List Nat} (hd : Digs l) (k : Nat) {r : Nat} (h0 : 0 < r) : nR l k r / 2 ^ k = pR l r / 2 ^ k % 10 ∧ nR l k r % 2 ^ k = pR l r % 2 ^ k ∧ pR l r / 2 ^ k / 10 = pR l (r - 1) / 2 ^ k := by
  obtain ⟨s, rfl⟩ : ∃ s, r = s + 1 := ⟨r - 1, by omega⟩
  have hlt := nR_lt hd k (s + 1)
  rw [Nat.add_sub_cancel]
  have hp : 0 < 2 ^ k := Nat.pow_pos (by omega)
  have e : pR l (s + 1) = nR l k (s + 1) + (pR l s / 2 ^ k * 10) * 2 ^ k := by
    unfold nR
    rw [pR_succ, Nat.add_sub_cancel]
    have h1 := Nat.div_add_mod (pR l s) (2 ^ k)
    have h2 : pR l s / 2 ^ k * 10 * 2 ^ k = 10 * (2 ^ k * (pR l s / 2 ^ k)) := by rw [Nat.mul_right_comm, Nat.mul_comm _ (2 ^ k), Nat.mul_comm 10]
    rw [h2]
    generalize 2 ^ k * (pR l s / 2 ^ k) = X at *
    omega
  have h9 : nR l k (s + 1) / 2 ^ k < 10 := by rw [Nat.div_lt_iff_lt_mul hp]; exact hlt
  have e1 : pR l (s + 1) / 2 ^ k = nR l k (s + 1) / 2 ^ k + pR l s / 2 ^ k * 10 := by rw [e, Nat.add_mul_div_right _ _ hp]
  have e2 : pR l (s + 1) % 2 ^ k = nR l k (s + 1) % 2 ^ k := by rw [e, Nat.add_mul_mod_self_right]
  rw [e1, e2]
  generalize nR l k (s + 1) / 2 ^ k = x at *
  generalize pR l s / 2 ^ k = y at *
  exact ⟨by omega, rfl, by omega⟩
theorem nR_next (l : List Nat) (k r : Nat) : nR l k (r + 1) = pR l r % 2 ^ k * 10 + dR l r := by unfold nR; rw [Nat.add_sub_cancel]; omega
theorem qR_chain {l : List Nat} (hd : Digs l) (k r : Nat) : ∀ j, pR l (r + j) / 2 ^ k / 10 ^ j = pR l r / 2 ^ k := by
  intro j
  induction j with
  | zero => simp
  | succ j ih =>
    have := (nR_parts hd k (r := r + (j + 1)) (by omega)).2.2
    rw [Nat.pow_succ', ← Nat.div_div_eq_div_mul, this, show r + (j + 1) - 1 = r + j by omega, ih]

/-- w digits of the quotient are written; those of l that are not read stand -/
def RSt (l : List Nat) (k r0 w : Nat) (D : List Nat) : Prop :=
  (∀ j, j < w → j < 800 → nth D j = 48 + pR l (r0 + j) / 2 ^ k % 10) ∧ (∀ j, r0 + w ≤ j → j < l.length → nth D j = nth l j)
def trR (l : List Nat) (k r0 w : Nat) : Bool := decide (pR l (r0 + w - 1) / 2 ^ k % 10 ^ (w - 800) ≠ 0)
theorem trR_small (l : List Nat) (k r0 : Nat) {w : Nat} (h : w ≤ 800) : trR l k r0 w = false := by unfold trR; rw [show w - 800 = 0 by omega]; simp [Nat.mod_one]
theorem trR_cut {l : List Nat} (hd : Digs l) (k : Nat) {r0 w : Nat} (h0 : 0 < r0) (h : 800 ≤ w) : trR l k r0 (w + 1) = (trR l k r0 w || decide (nR l k (r0 + w) / 2 ^ k ≠ 0)) := by
  unfold trR
  obtain ⟨h1, _, h3⟩ := nR_parts hd k (r := r0 + w) (by omega)
  rw [h1, show r0 + (w + 1) - 1 = r0 + w by omega, ← h3, show w + 1 - 800 = (w - 800).succ by omega, Nat.pow_succ', Nat.mod_mul]
  generalize pR l (r0 + w) / 2 ^ k = q
  by_cases h4 : q / 10 % 10 ^ (w - 800) = 0
  · rw [h4]; by_cases h5 : q % 10 = 0
    · simp [h5]
    · simp [h5]
  · rw [decide_eq_true (p := q % 10 + 10 * (q / 10 % 10 ^ (w - 800)) ≠ 0) (by omega), decide_eq_true (p := q / 10 % 10 ^ (w - 800) ≠ 0) h4]; rfl
theorem RSt.start {l D : List Nat} {k r0 : Nat} (h : D.take l.length = l) : RSt l k r0 0 D :=
  ⟨fun j h1 _ => by omega, fun j _ hj => by conv => rhs; rw [← h]
                                            rw [nth_take hj]⟩
theorem RSt.put {l D : List Nat} {k r0 w : Nat} (h : RSt l k r0 w D) (hd : Digs l) (h0 : 0 < r0) (hD : D.length = 800) (hw : w < 800) : RSt l k r0 (w + 1) (D.set w (48 + nR l k (r0 + w) / 2 ^ k)) := by
  refine ⟨fun j h1 h2 => ?_, fun j h1 h2 => ?_⟩
  · rw [nth_set_ _ _ _ _ (by omega)]
    by_cases e : w = j
    · rw [if_pos e, (nR_parts hd k (r := r0 + w) (by omega)).1, e]
    · rw [if_neg e]; exact h.1 j (by omega) h2
  · rw [nth_set_ _ _ _ _ (by omega), if_neg (by omega)]; exact h.2 j (by omega) h2
theorem RSt.skip {l D : List Nat} {k r0 w : Nat} (h : RSt l k r0 w D) (hw : 800 ≤ w) : RSt l k r0 (w + 1) D :=
  ⟨fun j _ h2 => h.1 j (by omega) h2, fun j h1 h2 => h.2 j (by omega) h2⟩

/-- the whole quotient: R digits are written and nothing is left -/
theorem RSt.done {l D : List Nat} {k r0 R : Nat} (h : RSt l k r0 R D) (hd : Digs l) (h0 : 0 < r0) (hR : 0 < R) (hD : D.length = 800) : D.take (min R 800) = (dgs R (pR l (r0 + R - 1) / 2 ^ k)).take 800 := by
  apply list_ext
  · simp [dgs_len, hD]; omega
  · intro i hi
    have hi' : i < min R 800 := by simp [hD] at hi; omega
    rw [nth_take hi', nth_take (by omega), h.1 i (by omega) (by omega), dgs_nth _ _ _ (by omega)]
    have := qR_chain hd k (r0 + i) (R - 1 - i)
    rw [show r0 + i + (R - 1 - i) = r0 + R - 1 by omega] at this
    rw [this]
theorem qR_bounds {l : List Nat} (hd : Digs l) (k : Nat) {r0 : Nat} (h1 : pR l (r0 - 1) < 2 ^ k) (h2 : 2 ^ k ≤ pR l r0) (h0 : 0 < r0) : ∀ j, 10 ^ j ≤ pR l (r0 + j) / 2 ^ k ∧ pR l (r0 + j) / 2 ^ k < 10 ^ (j + 1) := by
  intro j
  have hc := qR_chain hd k r0 j
  have hp : 0 < 2 ^ k := Nat.pow_pos (by omega)
  have hq : 1 ≤ pR l r0 / 2 ^ k := (Nat.le_div_iff_mul_le hp).2 (by omega)
  have hq2 : pR l r0 / 2 ^ k < 10 := by
    have := (nR_parts hd k h0).2.2
    rw [Nat.div_eq_of_lt h1] at this
    omega
  have ht : 0 < 10 ^ j := Nat.pow_pos (by omega)
  constructor
  · have := (Nat.le_div_iff_mul_le ht).1 (by rw [hc]; exact hq)
    omega
  · have h3 : pR l (r0 + j) / 2 ^ k / 10 ^ j < 10 := by rw [hc]; exact hq2
    rw [Nat.div_lt_iff_lt_mul ht] at h3
    rw [Nat.pow_succ']; exact h3
theorem nR_zero {l : List Nat} {k r : Nat} (h0 : 0 < r) (h : nR l k r = 0) : pR l r = 10 * 2 ^ k * (pR l (r - 1) / 2 ^ k) := by
  obtain ⟨s, rfl⟩ : ∃ s, r = s + 1 := ⟨r - 1, by omega⟩
  unfold nR at h
  rw [Nat.add_sub_cancel] at h ⊢
  have h1 := Nat.div_add_mod (pR l s) (2 ^ k)
  rw [pR_succ, Nat.mul_assoc]
  generalize 2 ^ k * (pR l s / 2 ^ k) = X at *
  omega

/-! ### what a shift leaves -/
/-- the number, scaled by 10 to the power of 5000 -/
def sv (l : List Nat) (dp : Int) : Nat := valD l * 10 ^ (5000 + dp - l.length).toNat
/-- l', dp', tr' is l, dp, tr times a by c, cut to 800 digits -/
def ShP (l : List Nat) (dp : Int) (tr : Bool) (a c : Nat) (l' : List Nat) (dp' : Int) (tr' : Bool) : Prop :=
  ∃ F, Lead F ∧ F.length ≤ l.length + 61 ∧ l' = tailL (F.take 800) ∧ sv F dp' * c = sv l dp * a ∧ tr' = (tr || decide (valD (F.drop 800) ≠ 0)) ∧ dp - 20 ≤ dp' ∧ dp' ≤ dp + 20

theorem shP_left {l : List Nat} {dp : Int} {k m : Nat} (tr : Bool) (hm0 : 0 < m) (h1 : 10 ^ (m - 1) ≤ valD l * 2 ^ k) (h2 : valD l * 2 ^ k < 10 ^ m) (hm : m ≤ l.length + 19) (hm2 : l.length ≤ m) :
    ShP l dp tr (2 ^ k) 1 (tailL ((dgs m (valD l * 2 ^ k)).take 800)) (dp + ((m : Int) - l.length)) (tr || trL m (valD l * 2 ^ k) m) := by
  refine ⟨dgs m (valD l * 2 ^ k), dgs_lead hm0 h1 h2, by rw [dgs_len]; omega, rfl, ?_, ?_, by omega, by omega⟩
  · unfold sv
    rw [dgs_val, dgs_len, Nat.mod_eq_of_lt h2, Nat.mul_one, show 5000 + (dp + ((m : Int) - l.length)) - m = 5000 + dp - l.length by omega, Nat.mul_right_comm]
  · congr 2
    unfold trL
    rw [show min m (m - 800) = m - 800 by omega]
    rcases Nat.lt_or_ge m 800 with h | h
    · rw [List.drop_of_length_le (by rw [dgs_len]; omega), show m - 800 = 0 by omega]
      simp [valD, Nat.mod_one]
    · rw [dgs_drop _ _ _ h, dgs_val]
theorem shP_right {l : List Nat} {dp : Int} {k r0 R : Nat} (tr : Bool) (hd : Digs l) (hl : l.length ≤ 800) (h0 : 0 < r0) (h1 : pR l (r0 - 1) < 2 ^ k) (h2 : 2 ^ k ≤ pR l r0) (hR : 0 < R) (hz : nR l k (r0 + R) = 0) (he : l.length ≤ r0 + R) (hR9 : R ≤ l.length + 61) (hr9 : r0 ≤ 20) (p0 : -3000 ≤ dp) :
    ShP l dp tr 1 (2 ^ k) (tailL ((dgs R (pR l (r0 + R - 1) / 2 ^ k)).take 800)) (dp - ((r0 : Int) - 1)) (tr || trR l k r0 R) := by
  have hb := qR_bounds hd k h1 h2 h0 (R - 1)
  rw [show r0 + (R - 1) = r0 + R - 1 by omega, show R - 1 + 1 = R by omega] at hb
  refine ⟨dgs R (pR l (r0 + R - 1) / 2 ^ k), dgs_lead hR hb.1 hb.2, by rw [dgs_len]; exact hR9, rfl, ?_, ?_, by omega, by omega⟩
  · unfold sv
    have hq := nR_zero (by omega) hz
    rw [pR_end l he] at hq
    rw [dgs_val, dgs_len, Nat.mod_eq_of_lt hb.2, Nat.mul_one]
    generalize pR l (r0 + R - 1) / 2 ^ k = q at *
    have e1 : (5000 + (dp - ((r0 : Int) - 1)) - R).toNat = (5000 + dp - (r0 + R : Nat)).toNat + 1 := by omega
    have e2 : (5000 + dp - (l.length : Int)).toNat = (5000 + dp - (r0 + R : Nat)).toNat + (r0 + R - l.length) := by omega
    rw [e1, e2, Nat.pow_add, Nat.pow_add, Nat.pow_one]
    generalize 10 ^ (5000 + dp - (r0 + R : Nat)).toNat = X at *
    generalize 10 ^ (r0 + R - l.length) = Y at *
    rw [Nat.mul_comm X Y, ← Nat.mul_assoc (valD l) Y X, hq]
    simp only [Nat.mul_comm, Nat.mul_left_comm]
  · congr 2
    unfold trR
    rcases Nat.lt_or_ge R 800 with h | h
    · rw [List.drop_of_length_le (by rw [dgs_len]; omega), show R - 800 = 0 by omega]
      simp [valD, Nat.mod_one]
    · rw [dgs_drop _ _ _ h, dgs_val]
end Go.Proofs.YtfndpecffhempaaDoor
