/- Plain facts on decimal digits and their value. Written by gen_c.py. -/
import Derived.Test.YtfndpecffhempaaDoorVal
import Derived.Test.YtfndpecffhempaaDoorDecA
import Derived.Test.YtfndpecffhempaaDoorFrom
namespace Go.Proofs.YtfndpecffhempaaDoor
open Go.RowKit

/-- h times 10 to the power of q: the ratio -/
def numT (h : Nat) (q : Int) : Nat := h * 10 ^ q.toNat
def denT (q : Int) : Nat := 10 ^ (-q).toNat
theorem times_ten (v : Value) (h : Nat) (q : Int) (w : World) (hm : IsNat w v h) (hl : Num.len h ≤ 1000) (p0 : -5000 ≤ q) (p1 : q ≤ 5000) :
    Calls Tryd.prog 22 #[v, .int .i64 0, .int .i64 q] w (GivesRatio (numT h q) (denT q) w) := by
  have h := times_any v h 0 q w hm hl (by omega) (by omega) p0 p1
  simpa [numT, denT] using h

theorem nth_eq {l : List Nat} {i : Nat} (h : i < l.length) : nth l i = l[i] := by simp [nth, List.getD_eq_getElem?_getD, h]
theorem nth_take {l : List Nat} {i k : Nat} (h : i < k) : nth (l.take k) i = nth l i := by
  simp only [nth, List.getD_eq_getElem?_getD, List.getElem?_take]; rw [if_pos h]
theorem nth_padL {l : List Nat} {i : Nat} (h : i < l.length) : nth (padL l) i = nth l i := by
  simp only [nth, padL, List.getD_eq_getElem?_getD, List.getElem?_append_left h]
theorem take_padL {l : List Nat} {k : Nat} (h : k ≤ l.length) : (padL l).take k = l.take k := by
  unfold padL; rw [List.take_append_of_le_length h]
theorem valD_append (a b : List Nat) : valD (a ++ b) = valD a * 10 ^ b.length + valD b := by
  suffices ∀ n, ∀ b : List Nat, b.length = n → valD (a ++ b) = valD a * 10 ^ n + valD b from this _ b rfl
  intro n
  induction n with
  | zero => intro b hb; obtain rfl := List.eq_nil_of_length_eq_zero hb; simp [valD]
  | succ n ih =>
    intro b hb
    have e := snoc_of (m := b) (by omega)
    have hl : (b.take (b.length - 1)).length = n := by simp; omega
    have h := ih _ hl
    rw [e, ← List.append_assoc, valD_snoc, valD_snoc, h, Nat.pow_succ, Nat.mul_add, ← Nat.mul_assoc (valD a)]
    generalize valD a * 10 ^ n = X at *
    omega
theorem valD_nil : valD [] = 0 := rfl
theorem valD_zeros (n : Nat) : valD (List.replicate n 48) = 0 := by
  induction n with
  | zero => rfl
  | succ n ih => rw [List.replicate_succ', valD_snoc, ih]
theorem valD_nines (n : Nat) : valD (List.replicate n 57) + 1 = 10 ^ n := by
  induction n with
  | zero => rfl
  | succ n ih => rw [List.replicate_succ', valD_snoc, Nat.pow_succ]; omega
/-- a list that is one number from place n on -/
theorem fill_of {m : List Nat} {n c : Nat} (hn : n ≤ m.length) (h : ∀ i, n ≤ i → i < m.length → nth m i = c) : m = m.take n ++ List.replicate (m.length - n) c := by
  have e := List.take_append_drop n m
  have hd : m.drop n = List.replicate (m.length - n) c := by
    rw [List.eq_replicate_iff]
    refine ⟨by simp, fun x hx => ?_⟩
    obtain ⟨i, hi, rfl⟩ := List.getElem_of_mem hx
    have hi' : i < m.length - n := by simpa using hi
    have := h (n + i) (by omega) (by omega)
    rw [nth_eq (by omega)] at this
    rw [List.getElem_drop]; exact this
  rw [hd] at e
  exact e.symm
/-- the same number with fewer digits -/
theorem dec_same {x y j : Nat} {q : Int} (h : x * 10 ^ j = y) : x * 10 ^ (q + j).toNat * 10 ^ (-q).toNat = y * 10 ^ q.toNat * 10 ^ (-(q + j)).toNat := by
  subst h
  rw [Nat.mul_assoc, Nat.mul_assoc, Nat.mul_assoc, ← Nat.pow_add, ← Nat.pow_add, ← Nat.pow_add]
  congr 2
  omega
theorem dec_eq {L : List Nat} {y j : Nat} {P q : Int} (h : valD L * 10 ^ j = y) (hP : P - L.length = q + j) : numV L P * denT q = numT y q * denV L P := by
  unfold numV denT numT denV
  rw [hP, show (L.length : Int) - P = -(q + j) by omega]
  exact dec_same h
theorem take_cut0 (D : List Nat) (n : Nat) (hn : n ≤ D.length) : D.take (cut0 D n) = tailL (D.take n) := by
  induction n with
  | zero => rfl
  | succ n ih =>
    have hl : (D.take (n + 1)).length = n + 1 := by simp; omega
    have e1 : nth (D.take (n + 1)) n = nth D n := nth_take (by omega)
    rw [cut0]
    by_cases h : nth D n = 48
    · have ht := tailL_hit (m := D.take (n + 1)) (by omega) (by rw [hl]; simp only [Nat.add_sub_cancel]; rw [e1]; exact h)
      rw [if_pos h, ih (by omega), ht, hl]
      simp only [Nat.add_sub_cancel, List.take_take]
      rw [Nat.min_eq_left (by omega)]
    · rw [if_neg h, tailL_miss (by omega) (by rw [hl]; simp only [Nat.add_sub_cancel]; rw [e1]; exact h)]
theorem cut0_zeros (D : List Nat) (n : Nat) : ∀ i, cut0 D n ≤ i → i < n → nth D i = 48 := by
  induction n with
  | zero => intro i _ h; omega
  | succ n ih =>
    intro i h1 h2
    rw [cut0] at h1
    by_cases h : nth D n = 48
    · rw [if_pos h] at h1
      by_cases e : i = n
      · rw [e]; exact h
      · exact ih i h1 (by omega)
    · rw [if_neg h] at h1; omega
theorem pow10_len {n : Nat} (h : n ≤ 5000) : Num.len (10 ^ n) ≤ 1000 := by have := Num.len_pow10 n; omega
theorem numV_len {L : List Nat} {P : Int} (hd : Digs L) (hl : L.length ≤ 1600) (p0 : -3000 ≤ P) (p1 : P ≤ 3000) : Num.len (numV L P) ≤ 3000 := by
  unfold numV
  have h1 := Num.len_mul (valD L) (10 ^ (P - L.length).toNat)
  have h2 := valD_len hd hl
  have h3 := pow10_len (n := (P - L.length).toNat) (by omega)
  omega
theorem denV_len {L : List Nat} {P : Int} (hl : L.length ≤ 1600) (p0 : -3000 ≤ P) : Num.len (denV L P) ≤ 3000 := by
  unfold denV
  have h3 := pow10_len (n := ((L.length : Int) - P).toNat) (by omega)
  omega
end Go.Proofs.YtfndpecffhempaaDoor
