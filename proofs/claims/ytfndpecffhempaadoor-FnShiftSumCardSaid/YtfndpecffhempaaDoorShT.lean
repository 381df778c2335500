/- The table leftcheats as numbers, and what it says of a product with a power of 2. Written by gen_sht.py. -/
import Derived.Test.YtfndpecffhempaaDoorShP
namespace Go.Proofs.YtfndpecffhempaaDoor
open Go.RowKit

/-- how many digits 2^k has, and the digits of 5^k (none for k = 0) -/
def chT : List (Nat × List Nat) := [(0, []), (1, [53]), (1, [50, 53]), (1, [49, 50, 53]), (2, [54, 50, 53]), (2, [51, 49, 50, 53]), (2, [49, 53, 54, 50, 53]), (3, [55, 56, 49, 50, 53]), (3, [51, 57, 48, 54, 50, 53]), (3, [49, 57, 53, 51, 49, 50, 53]), (4, [57, 55, 54, 53, 54, 50, 53]), (4, [52, 56, 56, 50, 56, 49, 50, 53]), (4, [50, 52, 52, 49, 52, 48, 54, 50, 53]), (4, [49, 50, 50, 48, 55, 48, 51, 49, 50, 53]), (5, [54, 49, 48, 51, 53, 49, 53, 54, 50, 53]), (5, [51, 48, 53, 49, 55, 53, 55, 56, 49, 50, 53]), (5, [49, 53, 50, 53, 56, 55, 56, 57, 48, 54, 50, 53]), (6, [55, 54, 50, 57, 51, 57, 52, 53, 51, 49, 50, 53]), (6, [51, 56, 49, 52, 54, 57, 55, 50, 54, 53, 54, 50, 53]), (6, [49, 57, 48, 55, 51, 52, 56, 54, 51, 50, 56, 49, 50, 53]), (7, [57, 53, 51, 54, 55, 52, 51, 49, 54, 52, 48, 54, 50, 53]), (7, [52, 55, 54, 56, 51, 55, 49, 53, 56, 50, 48, 51, 49, 50, 53]), (7, [50, 51, 56, 52, 49, 56, 53, 55, 57, 49, 48, 49, 53, 54, 50, 53]), (7, [49, 49, 57, 50, 48, 57, 50, 56, 57, 53, 53, 48, 55, 56, 49, 50, 53]), (8, [53, 57, 54, 48, 52, 54, 52, 52, 55, 55, 53, 51, 57, 48, 54, 50, 53]), (8, [50, 57, 56, 48, 50, 51, 50, 50, 51, 56, 55, 54, 57, 53, 51, 49, 50, 53]), (8, [49, 52, 57, 48, 49, 49, 54, 49, 49, 57, 51, 56, 52, 55, 54, 53, 54, 50, 53]), (9, [55, 52, 53, 48, 53, 56, 48, 53, 57, 54, 57, 50, 51, 56, 50, 56, 49, 50, 53]), (9, [51, 55, 50, 53, 50, 57, 48, 50, 57, 56, 52, 54, 49, 57, 49, 52, 48, 54, 50, 53]), (9, [49, 56, 54, 50, 54, 52, 53, 49, 52, 57, 50, 51, 48, 57, 53, 55, 48, 51, 49, 50, 53]), (10, [57, 51, 49, 51, 50, 50, 53, 55, 52, 54, 49, 53, 52, 55, 56, 53, 49, 53, 54, 50, 53]), (10, [52, 54, 53, 54, 54, 49, 50, 56, 55, 51, 48, 55, 55, 51, 57, 50, 53, 55, 56, 49, 50, 53]), (10, [50, 51, 50, 56, 51, 48, 54, 52, 51, 54, 53, 51, 56, 54, 57, 54, 50, 56, 57, 48, 54, 50, 53]), (10, [49, 49, 54, 52, 49, 53, 51, 50, 49, 56, 50, 54, 57, 51, 52, 56, 49, 52, 52, 53, 51, 49, 50, 53]), (11, [53, 56, 50, 48, 55, 54, 54, 48, 57, 49, 51, 52, 54, 55, 52, 48, 55, 50, 50, 54, 53, 54, 50, 53]), (11, [50, 57, 49, 48, 51, 56, 51, 48, 52, 53, 54, 55, 51, 51, 55, 48, 51, 54, 49, 51, 50, 56, 49, 50, 53]), (11, [49, 52, 53, 53, 49, 57, 49, 53, 50, 50, 56, 51, 54, 54, 56, 53, 49, 56, 48, 54, 54, 52, 48, 54, 50, 53]), (12, [55, 50, 55, 53, 57, 53, 55, 54, 49, 52, 49, 56, 51, 52, 50, 53, 57, 48, 51, 51, 50, 48, 51, 49, 50, 53]), (12, [51, 54, 51, 55, 57, 55, 56, 56, 48, 55, 48, 57, 49, 55, 49, 50, 57, 53, 49, 54, 54, 48, 49, 53, 54, 50, 53]), (12, [49, 56, 49, 56, 57, 56, 57, 52, 48, 51, 53, 52, 53, 56, 53, 54, 52, 55, 53, 56, 51, 48, 48, 55, 56, 49, 50, 53]), (13, [57, 48, 57, 52, 57, 52, 55, 48, 49, 55, 55, 50, 57, 50, 56, 50, 51, 55, 57, 49, 53, 48, 51, 57, 48, 54, 50, 53]), (13, [52, 53, 52, 55, 52, 55, 51, 53, 48, 56, 56, 54, 52, 54, 52, 49, 49, 56, 57, 53, 55, 53, 49, 57, 53, 51, 49, 50, 53]), (13, [50, 50, 55, 51, 55, 51, 54, 55, 53, 52, 52, 51, 50, 51, 50, 48, 53, 57, 52, 55, 56, 55, 53, 57, 55, 54, 53, 54, 50, 53]), (13, [49, 49, 51, 54, 56, 54, 56, 51, 55, 55, 50, 49, 54, 49, 54, 48, 50, 57, 55, 51, 57, 51, 55, 57, 56, 56, 50, 56, 49, 50, 53]), (14, [53, 54, 56, 52, 51, 52, 49, 56, 56, 54, 48, 56, 48, 56, 48, 49, 52, 56, 54, 57, 54, 56, 57, 57, 52, 49, 52, 48, 54, 50, 53]), (14, [50, 56, 52, 50, 49, 55, 48, 57, 52, 51, 48, 52, 48, 52, 48, 48, 55, 52, 51, 52, 56, 52, 52, 57, 55, 48, 55, 48, 51, 49, 50, 53]), (14, [49, 52, 50, 49, 48, 56, 53, 52, 55, 49, 53, 50, 48, 50, 48, 48, 51, 55, 49, 55, 52, 50, 50, 52, 56, 53, 51, 53, 49, 53, 54, 50, 53]), (15, [55, 49, 48, 53, 52, 50, 55, 51, 53, 55, 54, 48, 49, 48, 48, 49, 56, 53, 56, 55, 49, 49, 50, 52, 50, 54, 55, 53, 55, 56, 49, 50, 53]), (15, [51, 53, 53, 50, 55, 49, 51, 54, 55, 56, 56, 48, 48, 53, 48, 48, 57, 50, 57, 51, 53, 53, 54, 50, 49, 51, 51, 55, 56, 57, 48, 54, 50, 53]), (15, [49, 55, 55, 54, 51, 53, 54, 56, 51, 57, 52, 48, 48, 50, 53, 48, 52, 54, 52, 54, 55, 55, 56, 49, 48, 54, 54, 56, 57, 52, 53, 51, 49, 50, 53]), (16, [56, 56, 56, 49, 55, 56, 52, 49, 57, 55, 48, 48, 49, 50, 53, 50, 51, 50, 51, 51, 56, 57, 48, 53, 51, 51, 52, 52, 55, 50, 54, 53, 54, 50, 53]), (16, [52, 52, 52, 48, 56, 57, 50, 48, 57, 56, 53, 48, 48, 54, 50, 54, 49, 54, 49, 54, 57, 52, 53, 50, 54, 54, 55, 50, 51, 54, 51, 50, 56, 49, 50, 53]), (16, [50, 50, 50, 48, 52, 52, 54, 48, 52, 57, 50, 53, 48, 51, 49, 51, 48, 56, 48, 56, 52, 55, 50, 54, 51, 51, 51, 54, 49, 56, 49, 54, 52, 48, 54, 50, 53]), (16, [49, 49, 49, 48, 50, 50, 51, 48, 50, 52, 54, 50, 53, 49, 53, 54, 53, 52, 48, 52, 50, 51, 54, 51, 49, 54, 54, 56, 48, 57, 48, 56, 50, 48, 51, 49, 50, 53]), (17, [53, 53, 53, 49, 49, 49, 53, 49, 50, 51, 49, 50, 53, 55, 56, 50, 55, 48, 50, 49, 49, 56, 49, 53, 56, 51, 52, 48, 52, 53, 52, 49, 48, 49, 53, 54, 50, 53]), (17, [50, 55, 55, 53, 53, 53, 55, 53, 54, 49, 53, 54, 50, 56, 57, 49, 51, 53, 49, 48, 53, 57, 48, 55, 57, 49, 55, 48, 50, 50, 55, 48, 53, 48, 55, 56, 49, 50, 53]), (17, [49, 51, 56, 55, 55, 55, 56, 55, 56, 48, 55, 56, 49, 52, 52, 53, 54, 55, 53, 53, 50, 57, 53, 51, 57, 53, 56, 53, 49, 49, 51, 53, 50, 53, 51, 57, 48, 54, 50, 53]), (18, [54, 57, 51, 56, 56, 57, 51, 57, 48, 51, 57, 48, 55, 50, 50, 56, 51, 55, 55, 54, 52, 55, 54, 57, 55, 57, 50, 53, 53, 54, 55, 54, 50, 54, 57, 53, 51, 49, 50, 53]), (18, [51, 52, 54, 57, 52, 52, 54, 57, 53, 49, 57, 53, 51, 54, 49, 52, 49, 56, 56, 56, 50, 51, 56, 52, 56, 57, 54, 50, 55, 56, 51, 56, 49, 51, 52, 55, 54, 53, 54, 50, 53]), (18, [49, 55, 51, 52, 55, 50, 51, 52, 55, 53, 57, 55, 54, 56, 48, 55, 48, 57, 52, 52, 49, 49, 57, 50, 52, 52, 56, 49, 51, 57, 49, 57, 48, 54, 55, 51, 56, 50, 56, 49, 50, 53]), (19, [56, 54, 55, 51, 54, 49, 55, 51, 55, 57, 56, 56, 52, 48, 51, 53, 52, 55, 50, 48, 53, 57, 54, 50, 50, 52, 48, 54, 57, 53, 57, 53, 51, 51, 54, 57, 49, 52, 48, 54, 50, 53])]
def chD (k : Nat) : Nat := (chT.getD k (0, [])).1
def chC (k : Nat) : List Nat := (chT.getD k (0, [])).2
def chOk (k : Nat) : Bool := k == 0 || (decide (10 ^ (chD k - 1) ≤ 2 ^ k) && decide (2 ^ k < 10 ^ chD k) && decide (1 ≤ chD k) && decide (chD k ≤ 19) && decide (valD (chC k) = 5 ^ k) && (chC k).all (fun c => decide (48 ≤ c) && decide (c ≤ 57)) && decide (chD k + (chC k).length = k + 1) && decide (nth (chC k) ((chC k).length - 1) ≠ 48))
theorem chT_ok : ∀ k : Fin 61, chOk k.val = true := by decide +kernel
theorem ch_facts {k : Nat} (h1 : 1 ≤ k) (h2 : k ≤ 60) : 10 ^ (chD k - 1) ≤ 2 ^ k ∧ 2 ^ k < 10 ^ chD k ∧ 1 ≤ chD k ∧ chD k ≤ 19 ∧ valD (chC k) = 5 ^ k ∧ Digs (chC k) ∧ chD k + (chC k).length = k + 1 ∧ nth (chC k) ((chC k).length - 1) ≠ 48 := by
  have h := chT_ok ⟨k, by omega⟩
  simp only at h
  unfold chOk at h
  have h0 : (k == 0) = false := by simp; omega
  rw [h0, Bool.false_or] at h
  simp only [Bool.and_eq_true, decide_eq_true_eq, List.all_eq_true] at h
  obtain ⟨⟨⟨⟨⟨⟨⟨a1, a2⟩, a3⟩, a4⟩, a5⟩, a6⟩, a7⟩, a8⟩ := h
  exact ⟨a1, a2, a3, a4, a5, a6, a7, a8⟩

/-- is the head of l less than s, as prefixIsLessThan asks it? -/
def ltP (l s : List Nat) : Bool := decide (valD l * 10 ^ s.length < valD s * 10 ^ l.length)
theorem valD_pos_last {s : List Nat} (hs : Digs s) (h0 : 0 < s.length) (_h : nth s (s.length - 1) ≠ 48) : 0 < valD s := by
  have e := snoc_of h0
  have := digs_nth hs (k := s.length - 1) (by omega)
  rw [e, valD_snoc]
  omega
theorem split_at (l : List Nat) (i : Nat) (_h : i ≤ l.length) : valD l = valD (l.take i) * 10 ^ (l.length - i) + valD (l.drop i) := by
  have := valD_append (l.take i) (l.drop i)
  rw [List.take_append_drop, List.length_drop] at this
  exact this
/-- l is a head of s -/
theorem ltP_short {l s : List Nat} (hs : Digs s) (hl : l.length < s.length) (h : s.take l.length = l) (hz : nth s (s.length - 1) ≠ 48) : ltP l s = true := by
  unfold ltP
  rw [decide_eq_true_eq, split_at s l.length (by omega), h]
  have hp : 0 < valD (s.drop l.length) := by
    refine valD_pos_last (digs_drop hs _) (by rw [List.length_drop]; omega) ?_
    have e : nth (s.drop l.length) ((s.drop l.length).length - 1) = nth s (s.length - 1) := by
      rw [List.length_drop]
      simp only [nth, List.getD_eq_getElem?_getD, List.getElem?_drop]
      congr 2
      omega
    rw [e]; exact hz
  have e : 10 ^ s.length = 10 ^ (s.length - l.length) * 10 ^ l.length := by rw [← Nat.pow_add]; congr 1; omega
  rw [e, ← Nat.mul_assoc, Nat.add_mul]
  have : 0 < valD (s.drop l.length) * 10 ^ l.length := Nat.mul_pos hp (Nat.pow_pos (by omega))
  omega
/-- s is a head of l -/
theorem ltP_long {l s : List Nat} (hl : s.length ≤ l.length) (h : l.take s.length = s) : ltP l s = false := by
  unfold ltP
  rw [decide_eq_false_iff_not, split_at l s.length hl, h]
  have e : 10 ^ l.length = 10 ^ (l.length - s.length) * 10 ^ s.length := by rw [← Nat.pow_add]; congr 1; omega
  rw [e, ← Nat.mul_assoc, Nat.add_mul]
  omega
theorem lt_first {l s : List Nat} (hd : Digs l) (hs : Digs s) {i : Nat} (h1 : i < l.length) (h2 : i < s.length) (h : l.take i = s.take i) (hlt : nth l i < nth s i) : valD l * 10 ^ s.length < valD s * 10 ^ l.length := by
  have a := split_at l (i + 1) (by omega)
  have b := split_at s (i + 1) (by omega)
  rw [take_snoc_nth l h1, valD_snoc] at a
  rw [take_snoc_nth s h2, valD_snoc, ← h] at b
  have c := valD_lt (digs_drop hd (i + 1))
  rw [List.length_drop] at c
  have d1 := digs_nth hd h1
  have d2 := digs_nth hs h2
  generalize valD (l.take i) = X at *
  have p1 : 0 < 10 ^ (l.length - (i + 1)) := Nat.pow_pos (by omega)
  have hlo : valD l < (10 * X + (nth s i - 48)) * 10 ^ (l.length - (i + 1)) := by
    rw [a]
    have : (10 * X + (nth l i - 48) + 1) * 10 ^ (l.length - (i + 1)) ≤ (10 * X + (nth s i - 48)) * 10 ^ (l.length - (i + 1)) := Nat.mul_le_mul_right _ (by omega)
    rw [Nat.add_mul _ 1] at this
    omega
  have hhi : (10 * X + (nth s i - 48)) * 10 ^ (s.length - (i + 1)) ≤ valD s := by rw [b]; omega
  have e1 : 10 ^ s.length = 10 ^ (s.length - (i + 1)) * 10 ^ (i + 1) := by rw [← Nat.pow_add]; congr 1; omega
  have e2 : 10 ^ l.length = 10 ^ (l.length - (i + 1)) * 10 ^ (i + 1) := by rw [← Nat.pow_add]; congr 1; omega
  rw [e1, e2, ← Nat.mul_assoc, ← Nat.mul_assoc]
  refine Nat.mul_lt_mul_of_pos_right ?_ (Nat.pow_pos (by omega))
  have g1 := Nat.mul_lt_mul_of_pos_right hlo (show 0 < 10 ^ (s.length - (i + 1)) from Nat.pow_pos (by omega))
  have g2 := Nat.mul_le_mul_right (10 ^ (l.length - (i + 1))) hhi
  rw [Nat.mul_right_comm] at g1
  omega
theorem ltP_less {l s : List Nat} (hd : Digs l) (hs : Digs s) {i : Nat} (h1 : i < l.length) (h2 : i < s.length) (h : l.take i = s.take i) (hlt : nth l i < nth s i) : ltP l s = true := by
  unfold ltP; rw [decide_eq_true_eq]; exact lt_first hd hs h1 h2 h hlt
theorem ltP_more {l s : List Nat} (hd : Digs l) (hs : Digs s) {i : Nat} (h1 : i < l.length) (h2 : i < s.length) (h : l.take i = s.take i) (hlt : nth s i < nth l i) : ltP l s = false := by
  unfold ltP; rw [decide_eq_false_iff_not]
  have := lt_first hs hd h2 h1 h.symm hlt
  omega

/-- how many digits the product has -/
def mL (l : List Nat) (k : Nat) : Nat := l.length + chD k - (if ltP l (chC k) then 1 else 0)
theorem mL_facts {l : List Nat} {k : Nat} (hl : Lead l) (h1 : 1 ≤ k) (h2 : k ≤ 60) : 0 < mL l k ∧ l.length ≤ mL l k ∧ mL l k ≤ l.length + 19 ∧ 10 ^ (mL l k - 1) ≤ valD l * 2 ^ k ∧ valD l * 2 ^ k < 10 ^ mL l k := by
  obtain ⟨a1, a2, a3, a4, a5, a6, a7, a8⟩ := ch_facts h1 h2
  have hge := hl.ge
  have hlt := hl.lt
  have h0 := hl.2.1
  have hten : (2 : Nat) ^ k * 5 ^ k = 10 ^ k := by rw [← Nat.mul_pow]
  have hc : 10 ^ l.length * 10 ^ k = 5 ^ k * 10 ^ l.length * 2 ^ k := by rw [← hten, Nat.mul_comm (2 ^ k), ← Nat.mul_assoc, Nat.mul_comm (10 ^ l.length)]
  have key : ltP l (chC k) = true ↔ valD l * 2 ^ k < 10 ^ (l.length + chD k - 1) := by
    unfold ltP
    rw [decide_eq_true_eq, a5]
    have e : (10 : Nat) ^ (l.length + chD k - 1) * 10 ^ (chC k).length = 10 ^ l.length * 10 ^ k := by
      rw [← Nat.pow_add, ← Nat.pow_add]; congr 1; omega
    constructor
    · intro h
      have := Nat.mul_lt_mul_of_pos_right h (show 0 < 2 ^ k from Nat.pow_pos (by omega))
      rw [← hc, ← e, Nat.mul_right_comm] at this
      exact Nat.lt_of_mul_lt_mul_right this
    · intro h
      have := Nat.mul_lt_mul_of_pos_right h (show 0 < 10 ^ (chC k).length from Nat.pow_pos (by omega))
      rw [e, Nat.mul_right_comm, hc] at this
      exact Nat.lt_of_mul_lt_mul_right this
  have hup : valD l * 2 ^ k < 10 ^ (l.length + chD k) := by
    rw [Nat.pow_add]
    exact Nat.mul_lt_mul_of_lt_of_le hlt (Nat.le_of_lt a2) (Nat.pow_pos (by omega))
  have hlo : 10 ^ (l.length + chD k - 1 - 1) ≤ valD l * 2 ^ k := by
    have : 10 ^ (l.length + chD k - 1 - 1) = 10 ^ (l.length - 1) * 10 ^ (chD k - 1) := by rw [← Nat.pow_add]; congr 1; omega
    rw [this]
    exact Nat.mul_le_mul hge a1
  unfold mL
  rcases Bool.eq_false_or_eq_true (ltP l (chC k)) with hb | hb
  · have hlt2 := key.1 hb
    rw [hb, if_pos rfl]
    exact ⟨by omega, by omega, by omega, hlo, hlt2⟩
  · have hnl : ¬ valD l * 2 ^ k < 10 ^ (l.length + chD k - 1) := fun h => by rw [key.2 h] at hb; cases hb
    rw [hb, if_neg (by simp)]
    exact ⟨by omega, by omega, by omega, by simpa using Nat.le_of_not_lt hnl, by simpa using hup⟩
end Go.Proofs.YtfndpecffhempaaDoor
