/- Plain facts on rounding digits: what RoundDown and RoundUp leave is the reference's head times a power of 10. -/
import Derived.Test.YtfkhingkmfapbaaRDec
import Derived.Test.YtfkhingkmfapbaaSRnd
namespace Go.Proofs.Ytfkhingkmfapbaa
open Go.RowKit

theorem nth_eq {l : List Nat} {i : Nat} (h : i < l.length) : nth l i = l[i] := by simp [nth, List.getD_eq_getElem?_getD, h]
theorem nth_take {l : List Nat} {i k : Nat} (h : i < k) : nth (l.take k) i = nth l i := by
  simp only [nth, List.getD_eq_getElem?_getD, List.getElem?_take]; rw [if_pos h]
theorem nth_padL {l : List Nat} {i : Nat} (h : i < l.length) : nth (padL l) i = nth l i := by
  simp only [nth, padL, List.getD_eq_getElem?_getD, List.getElem?_append_left h]
theorem take_padL {l : List Nat} {k : Nat} (h : k ≤ l.length) : (padL l).take k = l.take k := by
  unfold padL; rw [List.take_append_of_le_length h]
theorem valD_append (a b : List Nat) : valD (a ++ b) = valD a * 10 ^ b.length + valD b := by
  suffices ∀ n, ∀ b : List Nat, b.length = n → valD (a ++ b) = valD a * 10 ^ n + valD b from this _ b rfl
  intro n
  induction n with
  | zero => intro b hb; obtain rfl := List.eq_nil_of_length_eq_zero hb; simp [valD]
  | succ n ih =>
    intro b hb
    have e := snoc_of (m := b) (by omega)
    have hl : (b.take (b.length - 1)).length = n := by simp; omega
    have h := ih _ hl
    rw [e, ← List.append_assoc, valD_snoc, valD_snoc, h, Nat.pow_succ, Nat.mul_add, ← Nat.mul_assoc (valD a)]
    generalize valD a * 10 ^ n = X at *
    omega
theorem valD_nil : valD [] = 0 := rfl
theorem valD_zeros (n : Nat) : valD (List.replicate n 48) = 0 := by
  induction n with
  | zero => rfl
  | succ n ih => rw [List.replicate_succ', valD_snoc, ih]
theorem valD_nines (n : Nat) : valD (List.replicate n 57) + 1 = 10 ^ n := by
  induction n with
  | zero => rfl
  | succ n ih => rw [List.replicate_succ', valD_snoc, Nat.pow_succ]; omega
/-- a list that is one number from place n on -/
theorem fill_of {m : List Nat} {n c : Nat} (hn : n ≤ m.length) (h : ∀ i, n ≤ i → i < m.length → nth m i = c) : m = m.take n ++ List.replicate (m.length - n) c := by
  have e := List.take_append_drop n m
  have hd : m.drop n = List.replicate (m.length - n) c := by
    rw [List.eq_replicate_iff]
    refine ⟨by simp, fun x hx => ?_⟩
    obtain ⟨i, hi, rfl⟩ := List.getElem_of_mem hx
    have hi' : i < m.length - n := by simpa using hi
    have := h (n + i) (by omega) (by omega)
    rw [nth_eq (by omega)] at this
    rw [List.getElem_drop]; exact this
  rw [hd] at e
  exact e.symm
/-- the same number with fewer digits -/
theorem dec_same {x y j : Nat} {q : Int} (h : x * 10 ^ j = y) : x * 10 ^ (q + j).toNat * 10 ^ (-q).toNat = y * 10 ^ q.toNat * 10 ^ (-(q + j)).toNat := by
  subst h
  rw [Nat.mul_assoc, Nat.mul_assoc, Nat.mul_assoc, ← Nat.pow_add, ← Nat.pow_add, ← Nat.pow_add]
  congr 2
  omega
theorem dec_eq {L : List Nat} {y j : Nat} {P q : Int} (h : valD L * 10 ^ j = y) (hP : P - L.length = q + j) : numV L P * denT q = numT y q * denV L P := by
  unfold numV denT numT denV
  rw [hP, show (L.length : Int) - P = -(q + j) by omega]
  exact dec_same h
theorem take_cut0 (D : List Nat) (n : Nat) (hn : n ≤ D.length) : D.take (cut0 D n) = tailL (D.take n) := by
  induction n with
  | zero => rfl
  | succ n ih =>
    have hl : (D.take (n + 1)).length = n + 1 := by simp; omega
    have e1 : nth (D.take (n + 1)) n = nth D n := nth_take (by omega)
    rw [cut0]
    by_cases h : nth D n = 48
    · have ht := tailL_hit (m := D.take (n + 1)) (by omega) (by rw [hl]; simp only [Nat.add_sub_cancel]; rw [e1]; exact h)
      rw [if_pos h, ih (by omega), ht, hl]
      simp only [Nat.add_sub_cancel, List.take_take]
      rw [Nat.min_eq_left (by omega)]
    · rw [if_neg h, tailL_miss (by omega) (by rw [hl]; simp only [Nat.add_sub_cancel]; rw [e1]; exact h)]
theorem cut0_zeros (D : List Nat) (n : Nat) : ∀ i, cut0 D n ≤ i → i < n → nth D i = 48 := by
  induction n with
  | zero => intro i _ h; omega
  | succ n ih =>
    intro i h1 h2
    rw [cut0] at h1
    by_cases h : nth D n = 48
    · rw [if_pos h] at h1
      by_cases e : i = n
      · rw [e]; exact h
      · exact ih i h1 (by omega)
    · rw [if_neg h] at h1; omega
/-- RoundDown -/
theorem down_eq {l : List Nat} {k : Nat} (p : Int) (way : Int) (hi : incR l k way = false) (hk : k < l.length) (_hl : l.length ≤ 800) :
    numV ((padL l).take (dnN l k)) (dnP l k p) * denT (p - k) = numT (hdR l k way) (p - k) * denV ((padL l).take (dnN l k)) (dnP l k p) := by
  have hN : dnN l k = cut0 (padL l) k := by unfold dnN; rw [if_neg (by omega)]
  have hP : dnP l k p = dpz (cut0 (padL l) k) p := by unfold dnP; rw [if_neg (by omega)]
  have hH : hdR l k way = valD (l.take k) := by unfold hdR; rw [hi]; simp
  have hc := cut0_le (padL l) k
  rw [hN, hP, hH]
  have hz := cut0_zeros (padL l) k
  generalize cut0 (padL l) k = n at *
  rw [take_padL (by omega)]
  have hf := fill_of (m := l.take k) (n := n) (c := 48) (by simp; omega) (fun i h1 h2 => by
    have h3 : i < k := by simp at h2; omega
    rw [nth_take h3, ← nth_padL (by omega)]; exact hz i h1 h3)
  have hv : valD (l.take k) = valD (l.take n) * 10 ^ (k - n) := by
    rw [hf, valD_append, valD_zeros, List.take_take, Nat.min_eq_left hc]; simp; rw [Nat.min_eq_left (by omega)]
  by_cases h0 : n = 0
  · subst h0
    rw [hv]
    simp [numV, numT, valD_nil]
  · rw [dpz_pos h0]
    exact dec_eq hv.symm (by simp; omega)
theorem up9_nines (D : List Nat) (k : Nat) : ∀ i, up9 D k ≤ i → i < k → 57 ≤ nth D i := by
  induction k with
  | zero => intro i _ h; omega
  | succ n ih =>
    intro i h1 h2
    rw [up9] at h1
    by_cases h : nth D n < 57
    · rw [if_pos h] at h1; omega
    · rw [if_neg h] at h1
      by_cases e : i = n
      · rw [e]; omega
      · exact ih i h1 (by omega)
theorem up9_small (D : List Nat) (k : Nat) : up9 D k = 0 ∨ nth D (up9 D k - 1) < 57 := by
  induction k with
  | zero => exact .inl rfl
  | succ n ih =>
    rw [up9]
    by_cases h : nth D n < 57
    · rw [if_pos h]; right; exact h
    · rw [if_neg h]; exact ih
/-- the digits behind RoundUp -/
theorem up_digits {l : List Nat} {k : Nat} (hd : Digs l) (hk : k < l.length) (hl : l.length ≤ 800) :
    Digs ((rupD l k).take (rupN l k)) ∧ ((rupD l k).take (rupN l k)).length = rupN l k ∧ valD ((rupD l k).take (rupN l k)) * 10 ^ (k - up9 (padL l) k) = valD (l.take k) + 1 := by
  have hN : rupN l k = upN (up9 (padL l) k) := by unfold rupN; rw [if_neg (by omega)]
  have hD : rupD l k = upD (padL l) (up9 (padL l) k) := by unfold rupD; rw [if_neg (by omega)]
  have hj := up9_le (padL l) k
  have hz := up9_nines (padL l) k
  have hs := up9_small (padL l) k
  rw [hN, hD]
  generalize up9 (padL l) k = j at *
  have hpl : (padL l).length = 800 := padL_len hl
  have hf := fill_of (m := l.take k) (n := j) (c := 57) (by simp; omega) (fun i h1 h2 => by
    have h3 : i < k := by simp at h2; omega
    have h4 := hz i h1 h3
    rw [nth_padL (by omega)] at h4
    have h5 := digs_nth hd (k := i) (by omega)
    rw [nth_take h3]; omega)
  have hv : valD (l.take k) + 1 = (valD (l.take j) + 1) * 10 ^ (k - j) := by
    have hlen : (l.take k).length = k := by simp; omega
    rw [hf, valD_append, List.take_take, Nat.min_eq_left hj, List.length_replicate, hlen, Nat.add_assoc, valD_nines, Nat.add_mul, Nat.one_mul]
  by_cases h0 : j = 0
  · subst h0
    have e : (upD (padL l) 0).take (upN 0) = [49] := by
      unfold upD upN
      rw [if_pos rfl, if_pos rfl]
      cases hc : padL l with
      | nil => rw [hc] at hpl; simp at hpl
      | cons a r => simp
    rw [e, hv]
    exact ⟨fun x hx => by simp at hx; omega, rfl, by simp [valD]⟩
  · have hs := hs.resolve_left h0
    rw [nth_padL (by omega)] at hs
    have e : (upD (padL l) j).take (upN j) = l.take (j - 1) ++ [nth l (j - 1) + 1] := by
      unfold upD upN
      rw [if_neg h0, if_neg h0, nth_padL (by omega)]
      have hset : ((padL l).set (j - 1) (nth l (j - 1) + 1)).take j = ((padL l).take j).set (j - 1) (nth l (j - 1) + 1) := List.take_set ..
      rw [hset, take_padL (by omega)]
      have hsn := take_snoc_nth l (k := j - 1) (by omega)
      rw [show j - 1 + 1 = j by omega] at hsn
      rw [hsn, List.set_append_right _ _ (by simp; omega)]
      simp [show min (j - 1) l.length = j - 1 by omega]
    have hdj := digs_nth hd (k := j - 1) (by omega)
    rw [e, hv]
    refine ⟨digs_append (digs_take hd _) (fun x hx => by simp at hx; omega), ?_, ?_⟩
    · simp [upN, h0]; omega
    · have hsn := take_snoc_nth l (k := j - 1) (by omega)
      rw [show j - 1 + 1 = j by omega] at hsn
      rw [hsn, valD_snoc, valD_snoc]
      congr 1
      omega
theorem up_eq {l : List Nat} {k : Nat} (p : Int) (way : Int) (hi : incR l k way = true) (hd : Digs l) (hk : k < l.length) (hl : l.length ≤ 800) :
    numV ((rupD l k).take (rupN l k)) (rupP l k p) * denT (p - k) = numT (hdR l k way) (p - k) * denV ((rupD l k).take (rupN l k)) (rupP l k p) := by
  obtain ⟨_, h2, h3⟩ := up_digits hd hk hl
  have hH : hdR l k way = valD (l.take k) + 1 := by unfold hdR; rw [hi]; simp
  rw [hH]
  have hj := up9_le (padL l) k
  have hN : rupN l k = upN (up9 (padL l) k) := by unfold rupN; rw [if_neg (by omega)]
  have hP : rupP l k p = upP (up9 (padL l) k) p := by unfold rupP; rw [if_neg (by omega)]
  refine dec_eq h3 ?_
  rw [h2, hN, hP]
  unfold upN upP
  split <;> omega
end Go.Proofs.Ytfkhingkmfapbaa
