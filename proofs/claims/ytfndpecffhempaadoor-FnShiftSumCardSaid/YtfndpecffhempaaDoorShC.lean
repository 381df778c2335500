/- Plain facts on chains of shifts: what stands behind many of them, and when it is exact. No function of the program is walked here. -/
import Derived.Test.YtfndpecffhempaaDoorShP
namespace Go.Proofs.YtfndpecffhempaaDoor
open Go.RowKit

theorem lead_take {F : List Nat} (h : Lead F) {n : Nat} (hn : 0 < n) : Lead (F.take n) :=
  ⟨fun x hx => h.1 x (List.mem_of_mem_take hx), by rw [List.length_take]; have := h.2.1; omega, by rw [nth_take hn]; exact h.2.2⟩
theorem tailL_lead {F : List Nat} (h : Lead F) : Lead (tailL F) := by
  obtain ⟨n, _, e, hz⟩ := tailL_take F
  have hn : 0 < n := by
    rcases Nat.eq_zero_or_pos n with h0 | h0
    · exact absurd (hz 0 (by omega) h.2.1) h.2.2
    · exact h0
  rw [e]; exact lead_take h hn
theorem sv_tail {F : List Nat} {dp : Int} (h : (F.length : Int) ≤ 5000 + dp) : sv (tailL F) dp = sv F dp := by
  obtain ⟨n, hn, e, hz⟩ := tailL_take F
  have hf := fill_of hn hz
  have hv : valD F = valD (F.take n) * 10 ^ (F.length - n) := by
    conv => lhs; rw [hf]
    rw [valD_append, valD_zeros, List.length_replicate]; rfl
  unfold sv
  rw [e, hv, List.length_take, Nat.min_eq_left hn, Nat.mul_assoc, ← Nat.pow_add]
  congr 2
  omega
theorem lead_last {F : List Nat} (h : Lead F) : nth (tailL F) ((tailL F).length - 1) ≠ 48 := by
  rcases tailL_last F with e | e
  · have := (tailL_lead h).2.1; rw [e] at this; simp at this
  · exact e

/-- behind the steps ks: to the left (times 2^k) or to the right -/
def ShC (left : Bool) : List Nat → List Nat → Int → Bool → List Nat → Int → Bool → Prop
  | [], l, dp, tr, l', dp', tr' => l' = l ∧ dp' = dp ∧ tr' = tr
  | k :: ks, l, dp, tr, l', dp', tr' => ∃ l1 dp1 tr1, ShP l dp tr (if left then 2 ^ k else 1) (if left then 1 else 2 ^ k) l1 dp1 tr1 ∧ ShC left ks l1 dp1 tr1 l' dp' tr'
theorem ShC.snoc {left : Bool} {ks : List Nat} {k : Nat} {l l1 l' : List Nat} {dp dp1 dp' : Int} {tr tr1 tr' : Bool} (h : ShC left ks l dp tr l1 dp1 tr1) (h2 : ShP l1 dp1 tr1 (if left then 2 ^ k else 1) (if left then 1 else 2 ^ k) l' dp' tr') : ShC left (ks ++ [k]) l dp tr l' dp' tr' := by
  induction ks generalizing l dp tr with
  | nil => obtain ⟨rfl, rfl, rfl⟩ := h; exact ⟨_, _, _, h2, rfl, rfl, rfl⟩
  | cons j ks ih => obtain ⟨a, b, c, h3, h4⟩ := h; exact ⟨a, b, c, h3, ih h4⟩
theorem ShP.lead {l l' : List Nat} {dp dp' : Int} {tr tr' : Bool} {a c : Nat} (h : ShP l dp tr a c l' dp' tr') : Lead l' ∧ l'.length ≤ 800 ∧ nth l' (l'.length - 1) ≠ 48 := by
  obtain ⟨F, hF, _, rfl, _⟩ := h
  have h8 := lead_take hF (n := 800) (by omega)
  refine ⟨tailL_lead h8, ?_, lead_last h8⟩
  have := tailL_len (F.take 800)
  rw [List.length_take] at this
  omega
theorem ShP.exact {l l' : List Nat} {dp dp' : Int} {tr tr' : Bool} {a c : Nat} (h : ShP l dp tr a c l' dp' tr') (hl : l.length + 61 ≤ 800) (p0 : -3000 ≤ dp) : tr' = tr ∧ l'.length ≤ l.length + 61 ∧ sv l' dp' * c = sv l dp * a := by
  obtain ⟨F, hF, h1, rfl, h2, h3, p1, p2⟩ := h
  rw [List.take_of_length_le (by omega)] 
  rw [List.drop_of_length_le (by omega)] at h3
  have := tailL_len F
  refine ⟨by rw [h3]; simp [valD], by omega, ?_⟩
  rw [sv_tail (by omega)]; exact h2
theorem ShC.lead {left : Bool} {ks : List Nat} {l l' : List Nat} {dp dp' : Int} {tr tr' : Bool} (h : ShC left ks l dp tr l' dp' tr') (hL : Lead l) (hl : l.length ≤ 800) : Lead l' ∧ l'.length ≤ 800 ∧ dp - 20 * ks.length ≤ dp' ∧ dp' ≤ dp + 20 * ks.length := by
  induction ks generalizing l dp tr with
  | nil => obtain ⟨rfl, rfl, rfl⟩ := h; exact ⟨hL, hl, by simp, by simp⟩
  | cons k ks ih =>
    obtain ⟨a, b, c, h3, h4⟩ := h
    obtain ⟨g1, g2, g3⟩ := h3.lead
    obtain ⟨e1, e2, e3, e4⟩ := ih h4 g1 g2
    obtain ⟨_, _, _, _, _, _, p1, p2⟩ := h3
    rw [List.length_cons]
    exact ⟨e1, e2, by omega, by omega⟩
theorem ShC.last {left : Bool} {ks : List Nat} {l l' : List Nat} {dp dp' : Int} {tr tr' : Bool} (h : ShC left ks l dp tr l' dp' tr') (hk : nth l (l.length - 1) ≠ 48) : nth l' (l'.length - 1) ≠ 48 := by
  induction ks generalizing l dp tr with
  | nil => obtain ⟨rfl, rfl, rfl⟩ := h; exact hk
  | cons k ks ih =>
    obtain ⟨a, b, c, h3, h4⟩ := h
    exact ih h4 h3.lead.2.2
theorem ShC.exact {left : Bool} {ks : List Nat} {l l' : List Nat} {dp dp' : Int} {tr tr' : Bool} (h : ShC left ks l dp tr l' dp' tr') (hl : l.length + 61 * ks.length ≤ 800) (p0 : -3000 + 20 * ks.length ≤ dp) :
    tr' = tr ∧ l'.length ≤ l.length + 61 * ks.length ∧ sv l' dp' * (if left then 1 else 2 ^ ks.sum) = sv l dp * (if left then 2 ^ ks.sum else 1) := by
  induction ks generalizing l dp tr with
  | nil => obtain ⟨rfl, rfl, rfl⟩ := h; simp
  | cons k ks ih =>
    obtain ⟨a, b, c, h3, h4⟩ := h
    rw [List.length_cons] at hl p0
    obtain ⟨g1, g2, g3⟩ := h3.exact (by omega) (by omega)
    obtain ⟨_, _, _, _, _, _, p1, p2⟩ := h3
    obtain ⟨e1, e2, e3⟩ := ih h4 (by omega) (by omega)
    rw [List.length_cons, List.sum_cons]
    refine ⟨e1.trans g1, by omega, ?_⟩
    cases left
    · simp only [Bool.false_eq_true, if_false] at g3 e3 ⊢
      rw [Nat.mul_one] at g3 e3 ⊢
      rw [Nat.pow_add, ← g3, ← e3, Nat.mul_comm (2 ^ k), Nat.mul_assoc]
    · simp only [if_true] at g3 e3 ⊢
      rw [Nat.mul_one] at g3 e3 ⊢
      rw [Nat.pow_add, e3, g3, Nat.mul_assoc]

/-- behind Shift by K -/
def ShK (l : List Nat) (dp : Int) (tr : Bool) (K : Int) (l' : List Nat) (dp' : Int) (tr' : Bool) : Prop :=
  ((l.length = 0 ∨ K = 0) ∧ l' = l ∧ dp' = dp ∧ tr' = tr) ∨ (l.length ≠ 0 ∧ K ≠ 0 ∧ ∃ ks, (∀ k ∈ ks, 1 ≤ k ∧ k ≤ 60) ∧ ks.sum = K.natAbs ∧ ks.length ≤ K.natAbs / 60 + 1 ∧ ShC (decide (0 < K)) ks l dp tr l' dp' tr')

theorem digs_inj {n : Nat} : ∀ {a b : List Nat}, Digs a → Digs b → a.length = n → b.length = n → valD a = valD b → a = b := by
  induction n with
  | zero => intro a b _ _ h1 h2 _; rw [List.length_eq_zero_iff.1 h1, List.length_eq_zero_iff.1 h2]
  | succ n ih =>
    intro a b da db h1 h2 hv
    have ea := snoc_of (show 0 < a.length by omega)
    have eb := snoc_of (show 0 < b.length by omega)
    have xa := digs_nth da (k := a.length - 1) (by omega)
    have xb := digs_nth db (k := b.length - 1) (by omega)
    rw [ea, eb, valD_snoc, valD_snoc] at hv
    have hx : nth a (a.length - 1) = nth b (b.length - 1) := by omega
    have hy := ih (a := a.take (a.length - 1)) (b := b.take (b.length - 1)) (fun x hx => da x (List.mem_of_mem_take hx)) (fun x hx => db x (List.mem_of_mem_take hx)) (by rw [List.length_take]; omega) (by rw [List.length_take]; omega) (by omega)
    rw [ea, eb, hx, hy]
theorem sv_bounds {l : List Nat} {dp : Int} (h : Lead l) (hd : (l.length : Int) ≤ 5000 + dp) : 10 ^ (5000 + dp - 1).toNat ≤ sv l dp ∧ sv l dp < 10 ^ (5000 + dp).toNat := by
  have h1 := h.ge
  have h2 := h.lt
  have h0 := h.2.1
  unfold sv
  have e1 : (5000 + dp - 1).toNat = l.length - 1 + (5000 + dp - l.length).toNat := by omega
  have e2 : (5000 + dp).toNat = l.length + (5000 + dp - l.length).toNat := by omega
  rw [e1, e2, Nat.pow_add, Nat.pow_add]
  exact ⟨Nat.mul_le_mul_right _ h1, Nat.mul_lt_mul_of_pos_right h2 (Nat.pow_pos (by omega))⟩
theorem sv_same {l l' : List Nat} {A : Nat} (h : Lead l) (h' : Lead l') (hz' : nth l' (l'.length - 1) ≠ 48) (b1 : l.length ≤ A) (b2 : l'.length ≤ A) (e : valD l * 10 ^ (A - l.length) = valD l' * 10 ^ (A - l'.length)) (hle : l.length ≤ l'.length) : l = l' := by
  have hv : valD l' = valD l * 10 ^ (l'.length - l.length) := by
    have : A - l.length = l'.length - l.length + (A - l'.length) := by omega
    rw [this, Nat.pow_add, ← Nat.mul_assoc] at e
    exact (Nat.eq_of_mul_eq_mul_right (Nat.pow_pos (by omega)) e).symm
  rcases Nat.lt_or_ge l.length l'.length with hlt | hge
  · exfalso
    have e2 := snoc_of h'.2.1
    have x := digs_nth h'.1 (k := l'.length - 1) (by have := h'.2.1; omega)
    have e3 : 10 ^ (l'.length - l.length) = 10 ^ (l'.length - l.length - 1) * 10 := by rw [← Nat.pow_succ]; congr 1; omega
    rw [e3, ← Nat.mul_assoc] at hv
    have e4 : valD l' = 10 * valD (l'.take (l'.length - 1)) + (nth l' (l'.length - 1) - 48) := by
      conv => lhs; rw [e2]
      rw [valD_snoc]
    omega
  · have hl : l.length = l'.length := by omega
    rw [hl, Nat.sub_self, Nat.pow_zero, Nat.mul_one] at hv
    exact digs_inj h.1 h'.1 rfl hl.symm hv.symm
theorem sv_inj {l l' : List Nat} {dp dp' : Int} (h : Lead l) (h' : Lead l') (hz : nth l (l.length - 1) ≠ 48) (hz' : nth l' (l'.length - 1) ≠ 48) (b1 : (l.length : Int) ≤ 5000 + dp) (b2 : (l'.length : Int) ≤ 5000 + dp') (e : sv l dp = sv l' dp') : l = l' ∧ dp = dp' := by
  have s1 := sv_bounds h b1
  have s2 := sv_bounds h' b2
  have g1 := h.2.1
  have g2 := h'.2.1
  have hdp : dp = dp' := by
    rcases Int.lt_trichotomy dp dp' with hc | hc | hc
    · have := Nat.pow_le_pow_right (n := 10) (by omega) (show (5000 + dp).toNat ≤ (5000 + dp' - 1).toNat by omega)
      omega
    · exact hc
    · have := Nat.pow_le_pow_right (n := 10) (by omega) (show (5000 + dp').toNat ≤ (5000 + dp - 1).toNat by omega)
      omega
  subst hdp
  refine ⟨?_, rfl⟩
  unfold sv at e
  have e1 : (5000 + dp - l.length).toNat = (5000 + dp).toNat - l.length := by omega
  have e2 : (5000 + dp - l'.length).toNat = (5000 + dp).toNat - l'.length := by omega
  rw [e1, e2] at e
  rcases Nat.le_total l.length l'.length with hc | hc
  · exact sv_same h h' hz' (by omega) (by omega) e hc
  · exact (sv_same h' h hz (by omega) (by omega) e.symm hc).symm
theorem numV_sv {l : List Nat} {p : Int} {M : Nat} (hM : M = 5000) (h : (l.length : Int) ≤ 5000 + p) : numV l p * 10 ^ M = sv l p * denV l p := by
  unfold numV sv denV
  rw [Nat.mul_assoc, Nat.mul_assoc, ← Nat.pow_add, ← Nat.pow_add]
  congr 2
  omega
end Go.Proofs.YtfndpecffhempaaDoor
