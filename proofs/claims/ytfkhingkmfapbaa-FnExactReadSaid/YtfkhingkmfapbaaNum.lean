/- Plain facts on whole numbers that are written by digits to the base 2^32, the lowest first: no program is in sight.
   Conditions: each is said where it is wanted (digits below the base; the highest digit not 0). -/
import Derived.Below
namespace Go.Proofs.Ytfkhingkmfapbaa.Num

/-- the number of digits, the lowest first -/
def val : List Nat → Nat
  | [] => 0
  | d :: r => d + 4294967296 * val r

/-- the number of the first n digits that a function tells -/
def upto (f : Nat → Nat) : Nat → Nat
  | 0 => 0
  | n + 1 => upto f n + f n * 4294967296 ^ n

/-- the digits of a number -/
def dg (n : Nat) : List Nat := if h : n = 0 then [] else n % 4294967296 :: dg (n / 4294967296)
termination_by n
decreasing_by omega

theorem dg_zero : dg 0 = [] := by rw [dg]; simp
theorem dg_pos {n : Nat} (h : n ≠ 0) : dg n = n % 4294967296 :: dg (n / 4294967296) := by rw [dg]; simp [h]
theorem dg_small {n : Nat} (h : n ≠ 0) (hb : n < 4294967296) : dg n = [n] := by
  rw [dg_pos h, Nat.div_eq_of_lt hb, dg_zero, Nat.mod_eq_of_lt hb]

theorem val_dg (n : Nat) : val (dg n) = n := by
  induction n using Nat.strongRecOn with
  | _ n ih =>
    by_cases h : n = 0
    · subst h; rw [dg_zero]; rfl
    · rw [dg_pos h, val, ih _ (by omega)]
      omega
theorem dg_lt (n : Nat) : ∀ d ∈ dg n, d < 4294967296 := by
  induction n using Nat.strongRecOn with
  | _ n ih =>
    by_cases h : n = 0
    · subst h; rw [dg_zero]; simp
    · rw [dg_pos h]
      intro d hd
      rcases List.mem_cons.1 hd with rfl | hd
      · omega
      · exact ih _ (by omega) d hd

def len (n : Nat) : Nat := (dg n).length
theorem len_zero : len 0 = 0 := by unfold len; rw [dg_zero]; rfl
theorem len_pos {n : Nat} (h : n ≠ 0) : len n = len (n / 4294967296) + 1 := by unfold len; rw [dg_pos h]; rfl
theorem len_eq_zero {n : Nat} : len n = 0 ↔ n = 0 := by
  constructor
  · intro h
    by_cases h0 : n = 0
    · exact h0
    · rw [len_pos h0] at h; omega
  · rintro rfl; exact len_zero
theorem len_le {n k : Nat} (h : n < 4294967296 ^ k) : len n ≤ k := by
  induction k generalizing n with
  | zero => have : n = 0 := by simpa using h
            subst this; rw [len_zero]; exact Nat.le_refl _
  | succ k ih =>
    by_cases h0 : n = 0
    · subst h0; rw [len_zero]; omega
    · rw [len_pos h0]
      have : n / 4294967296 < 4294967296 ^ k := by
        rw [Nat.div_lt_iff_lt_mul (by omega)]
        rw [Nat.pow_succ] at h; exact h
      have := ih this
      omega
theorem lt_pow_len (n : Nat) : n < 4294967296 ^ len n := by
  induction n using Nat.strongRecOn with
  | _ n ih =>
    by_cases h : n = 0
    · subst h; rw [len_zero]; decide
    · rw [len_pos h, Nat.pow_succ]
      have := ih (n / 4294967296) (by omega)
      rw [← Nat.div_lt_iff_lt_mul (by omega)]
      exact this
theorem pow_len_le {n : Nat} (h : n ≠ 0) : 4294967296 ^ (len n - 1) ≤ n := by
  rcases Nat.lt_or_ge n (4294967296 ^ (len n - 1)) with hlt | hge
  · have := len_le hlt
    have h1 : len n ≠ 0 := fun e => h (len_eq_zero.1 e)
    omega
  · exact hge
theorem len_mono {a b : Nat} (h : a ≤ b) : len a ≤ len b := len_le (Nat.lt_of_le_of_lt h (lt_pow_len b))
theorem len_mul (a b : Nat) : len (a * b) ≤ len a + len b := by
  apply len_le
  rw [Nat.pow_add]
  have h1 := lt_pow_len a
  have h2 := lt_pow_len b
  rcases Nat.eq_zero_or_pos b with rfl | hb
  · rw [Nat.mul_zero]; exact Nat.mul_pos (Nat.pow_pos (by omega)) (Nat.pow_pos (by omega))
  · exact Nat.lt_of_lt_of_le (Nat.mul_lt_mul_of_pos_right h1 hb) (Nat.mul_le_mul_left _ (Nat.le_of_lt h2))
theorem base_two : (4294967296 : Nat) = 2 ^ 32 := by decide
theorem pow_base (k : Nat) : (4294967296 : Nat) ^ k = 2 ^ (32 * k) := by rw [base_two, ← Nat.pow_mul]
theorem len_two {n k : Nat} (h : n < 2 ^ k) : len n ≤ (k + 31) / 32 := by
  apply len_le
  rw [pow_base]
  exact Nat.lt_of_lt_of_le h (Nat.pow_le_pow_right (by omega) (by omega))
theorem len_shl (a n : Nat) : len (a * 2 ^ n) ≤ len a + (n + 31) / 32 := by
  apply len_le
  have h1 := lt_pow_len a
  rw [Nat.pow_add]
  refine Nat.lt_of_lt_of_le (Nat.mul_lt_mul_of_pos_right h1 (Nat.pow_pos (by omega))) (Nat.mul_le_mul_left _ ?_)
  rw [pow_base]
  exact Nat.pow_le_pow_right (by omega) (by omega)
theorem pow10_lt (n : Nat) : 10 ^ n < 2 ^ (4 * n + 1) := by
  have h : 10 ^ n ≤ 2 ^ (4 * n) := by
    rw [Nat.pow_mul]
    exact Nat.pow_le_pow_left (by decide) n
  have : 2 ^ (4 * n) < 2 ^ (4 * n + 1) := Nat.pow_lt_pow_right (by omega) (by omega)
  omega
theorem len_pow10 (n : Nat) : len (10 ^ n) ≤ n / 8 + 1 := by
  have := len_two (pow10_lt n)
  omega

/-! ### digits by a function -/
theorem upto_congr {f g : Nat → Nat} {n : Nat} (h : ∀ i, i < n → f i = g i) : upto f n = upto g n := by
  induction n with
  | zero => rfl
  | succ n ih => rw [upto, upto, ih (fun i hi => h i (by omega)), h n (by omega)]
theorem upto_lt {f : Nat → Nat} {n : Nat} (h : ∀ i, i < n → f i < 4294967296) : upto f n < 4294967296 ^ n := by
  induction n with
  | zero => show 0 < 1; omega
  | succ n ih =>
    rw [upto, Nat.pow_succ]
    have h1 := ih (fun i hi => h i (by omega))
    have h2 : f n * 4294967296 ^ n ≤ 4294967295 * 4294967296 ^ n := Nat.mul_le_mul_right _ (by have := h n (by omega); omega)
    generalize 4294967296 ^ n = P at *
    omega
theorem upto_zero {f : Nat → Nat} {n m : Nat} (hnm : n ≤ m) (h : ∀ i, n ≤ i → i < m → f i = 0) : upto f m = upto f n := by
  induction m with
  | zero => have : n = 0 := by omega
            subst this; rfl
  | succ m ih =>
    by_cases e : n = m + 1
    · subst e; rfl
    · rw [upto, h m (by omega) (by omega), ih (by omega) (fun i h1 h2 => h i h1 (by omega))]; omega
theorem upto_tail (f : Nat → Nat) (n : Nat) : upto f (n + 1) = f 0 + 4294967296 * upto (fun i => f (i + 1)) n := by
  induction n with
  | zero => simp [upto]
  | succ n ih => rw [upto, ih, upto, Nat.pow_succ, Nat.mul_add, ← Nat.mul_assoc, Nat.mul_comm (4294967296 : Nat) (f (n + 1) * _), Nat.add_assoc, Nat.mul_assoc]
theorem val_eq (ds : List Nat) : val ds = upto (fun i => ds.getD i 0) ds.length := by
  induction ds with
  | nil => rfl
  | cons d r ih => rw [List.length_cons, upto_tail, val, ih]; simp
theorem val_upto (ds : List Nat) {m : Nat} (h : ds.length ≤ m) : val ds = upto (fun i => ds.getD i 0) m := by
  rw [val_eq]; exact (upto_zero h (fun i h1 _ => by simp [List.getD_eq_getElem?_getD, List.getElem?_eq_none h1])).symm
theorem val_take (ds : List Nat) (k : Nat) : val (ds.take k) = upto (fun i => ds.getD i 0) k := by
  rw [val_upto (ds.take k) (m := k) (by simp; omega)]
  apply upto_congr
  intro i hi
  simp [List.getD_eq_getElem?_getD, hi]
theorem upto_cmp {f g : Nat → Nat} {i m : Nat} (hi : i < m) (hf : ∀ j, j < m → f j < 4294967296) (hh : ∀ j, i < j → j < m → f j = g j) (hl : f i < g i) : upto f m < upto g m := by
  induction m with
  | zero => omega
  | succ m ih =>
    rw [upto, upto]
    by_cases e : i = m
    · subst e
      have h1 := upto_lt (f := f) (n := i) (fun j hj => hf j (by omega))
      have h2 : (f i + 1) * 4294967296 ^ i ≤ g i * 4294967296 ^ i := Nat.mul_le_mul_right _ hl
      rw [Nat.add_mul] at h2
      omega
    · have := ih (by omega) (fun j hj => hf j (by omega)) (fun j h1 h2 => hh j h1 (by omega))
      rw [hh m (by omega) (by omega)]
      omega

/-- the highest digit is not 0 -/
def Canon (ds : List Nat) : Prop := ds = [] ∨ ds.getD (ds.length - 1) 0 ≠ 0
theorem dg_val {ds : List Nat} (h : ∀ d ∈ ds, d < 4294967296) (hc : Canon ds) : dg (val ds) = ds := by
  induction ds with
  | nil => exact dg_zero
  | cons d r ih =>
    have hd : d < 4294967296 := h d (by simp)
    have hr : ∀ x ∈ r, x < 4294967296 := fun x hx => h x (by simp [hx])
    rcases r with _ | ⟨d', r'⟩
    · rcases hc with hc | hc
      · cases hc
      · simp at hc
        simp only [val, Nat.mul_zero, Nat.add_zero]
        exact dg_small hc hd
    · have hc' : Canon (d' :: r') := by
        right
        rcases hc with hc | hc
        · cases hc
        · simpa using hc
      have hi := ih hr hc'
      have hne : val (d' :: r') ≠ 0 := by
        intro e; rw [e, dg_zero] at hi; cases hi
      rw [val, dg_pos (by omega)]
      have e1 : (d + 4294967296 * val (d' :: r')) % 4294967296 = d := by omega
      have e2 : (d + 4294967296 * val (d' :: r')) / 4294967296 = val (d' :: r') := by omega
      rw [e1, e2, hi]
theorem dg_canon (n : Nat) : Canon (dg n) := by
  induction n using Nat.strongRecOn with
  | _ n ih =>
    by_cases h : n = 0
    · subst h; rw [dg_zero]; exact .inl rfl
    · right
      rw [dg_pos h]
      by_cases h2 : n / 4294967296 = 0
      · rw [h2, dg_zero]; simp; omega
      · rcases ih (n / 4294967296) (by omega) with e | e
        · exact absurd (by rw [← val_dg (n / 4294967296), e]; rfl) h2
        · have hl : (dg (n / 4294967296)).length ≠ 0 := by
            intro e0; rw [List.eq_nil_of_length_eq_zero e0] at e; exact e rfl
          rw [List.length_cons, Nat.add_sub_cancel]
          obtain ⟨k, hk⟩ := Nat.exists_eq_succ_of_ne_zero hl
          rw [hk] at e ⊢
          simpa using e
/-- what a trim comes to: the first k digits, where all behind them are 0 and the k-th is not -/
theorem dg_take {ds : List Nat} {k : Nat} (h : ∀ d ∈ ds, d < 4294967296) (hk : k ≤ ds.length) (hz : ∀ i, k ≤ i → i < ds.length → ds.getD i 0 = 0) (hn : k = 0 ∨ ds.getD (k - 1) 0 ≠ 0) : ds.take k = dg (val ds) := by
  have hv : val (ds.take k) = val ds := by
    rw [val_take, val_eq]; exact (upto_zero hk hz).symm
  rw [← hv]
  refine (dg_val (fun d hd => h d (List.mem_of_mem_take hd)) ?_).symm
  rcases hn with rfl | hn
  · left; simp
  · rcases Nat.eq_zero_or_pos k with rfl | hp
    · left; simp
    · right
      have : (ds.take k).length = k := by simp; omega
      rw [this]
      have e : (ds.take k).getD (k - 1) 0 = ds.getD (k - 1) 0 := by
        simp only [List.getD_eq_getElem?_getD, List.getElem?_take]
        rw [if_pos (by omega)]
      rw [e]; exact hn
theorem getD_lt {ds : List Nat} (h : ∀ d ∈ ds, d < 4294967296) (i : Nat) : ds.getD i 0 < 4294967296 := by
  by_cases hi : i < ds.length
  · have e : ds.getD i 0 = ds[i] := by simp [List.getD_eq_getElem?_getD, hi]
    rw [e]; exact h _ (List.getElem_mem hi)
  · have e : ds.getD i 0 = 0 := by simp [List.getD_eq_getElem?_getD]; rw [List.getElem?_eq_none (by omega)]; rfl
    rw [e]; omega

/-- the digits of a number, one by one -/
def dig (n i : Nat) : Nat := (dg n).getD i 0
theorem dig_lt (n i : Nat) : dig n i < 4294967296 := getD_lt (dg_lt n) i
theorem dig_end {n i : Nat} (h : len n ≤ i) : dig n i = 0 := by
  unfold dig; simp [List.getD_eq_getElem?_getD, List.getElem?_eq_none (show (dg n).length ≤ i from h)]
theorem upto_dig {n m : Nat} (h : len n ≤ m) : upto (dig n) m = n := by
  have := val_upto (dg n) (m := m) h
  rw [val_dg] at this
  exact this.symm
theorem upto_dig_lt (n m : Nat) : upto (dig n) m < 4294967296 ^ m := upto_lt (fun i _ => dig_lt n i)
theorem upto_dig_le (n m : Nat) : upto (dig n) m ≤ n := by
  rcases Nat.lt_or_ge m (len n) with h | h
  · have h2 := upto_dig (n := n) (Nat.le_refl (len n))
    have : ∀ k, upto (dig n) m ≤ upto (dig n) (m + k) := by
      intro k
      induction k with
      | zero => exact Nat.le_refl _
      | succ k ih => rw [← Nat.add_assoc, upto]; omega
    have := this (len n - m)
    rw [show m + (len n - m) = len n from by omega, h2] at this
    exact this
  · exact Nat.le_of_eq (upto_dig h)
theorem dig_top {n : Nat} (h : n ≠ 0) : dig n (len n - 1) ≠ 0 := by
  rcases dg_canon n with e | e
  · exact absurd (by rw [← val_dg n, e]; rfl) h
  · exact e
theorem dig_small {n : Nat} (h : n < 4294967296) : dig n 0 = n := by
  by_cases h0 : n = 0
  · subst h0; unfold dig; rw [dg_zero]; rfl
  · unfold dig; rw [dg_small h0 h]; rfl
theorem len_small {n : Nat} (h : n ≠ 0) (hb : n < 4294967296) : len n = 1 := by unfold len; rw [dg_small h hb]; rfl
theorem cmp_lt {a b i m : Nat} (hi : i < m) (ha : len a ≤ m) (hb : len b ≤ m) (hh : ∀ j, i < j → j < m → dig a j = dig b j) (hl : dig a i < dig b i) : a < b := by
  have := upto_cmp (f := dig a) (g := dig b) hi (fun j _ => dig_lt a j) hh hl
  rwa [upto_dig ha, upto_dig hb] at this
theorem cmp_eq {a b m : Nat} (ha : len a ≤ m) (hb : len b ≤ m) (hh : ∀ j, j < m → dig a j = dig b j) : a = b := by
  rw [← upto_dig ha, ← upto_dig hb]; exact upto_congr hh

/-! ### the steps of the loops -/
/-- one digit is put at place p of a row -/
theorem val_set (ds : List Nat) {p : Nat} (x : Nat) (h : p < ds.length) : val (ds.set p x) + ds.getD p 0 * 4294967296 ^ p = val ds + x * 4294967296 ^ p := by
  induction ds generalizing p with
  | nil => simp at h
  | cons d r ih =>
    cases p with
    | zero => simp [val]; omega
    | succ p =>
      have := ih (p := p) (by simpa using h)
      simp only [List.set_cons_succ, val, List.getD_cons_succ, Nat.pow_succ]
      generalize 4294967296 ^ p = P at *
      rw [← Nat.mul_assoc, ← Nat.mul_assoc] 
      omega
theorem val_append (a b : List Nat) : val (a ++ b) = val a + 4294967296 ^ a.length * val b := by
  induction a with
  | nil => simp [val]
  | cons d r ih =>
    simp only [List.cons_append, val, ih, List.length_cons, Nat.pow_succ, Nat.mul_add]
    rw [← Nat.mul_assoc, Nat.mul_comm (4294967296 : Nat) (4294967296 ^ r.length)]
    omega
theorem val_snoc (a : List Nat) (x : Nat) : val (a ++ [x]) = val a + x * 4294967296 ^ a.length := by
  rw [val_append]; simp [val, Nat.mul_comm]
theorem val_zeros (n : Nat) : val (List.replicate n 0) = 0 := by
  induction n with
  | zero => rfl
  | succ n ih => rw [List.replicate_succ, val, ih]

end Go.Proofs.Ytfkhingkmfapbaa.Num
