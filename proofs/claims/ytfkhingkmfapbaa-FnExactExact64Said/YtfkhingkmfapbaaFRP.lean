/- Plain facts on rounding a ratio to a binary format (to nearest, ties to even): no program is in sight. -/
import Derived.Below
namespace Go.Proofs.Ytfkhingkmfapbaa

/-- how many binary digits a number has -/
def bl (n : Nat) : Nat := if n = 0 then 0 else n.log2 + 1
theorem bl_lt (n : Nat) : n < 2 ^ bl n := by
  unfold bl
  split
  · rename_i h; subst h; decide
  · exact Nat.lt_log2_self
theorem bl_le {n : Nat} (h : n ≠ 0) : 2 ^ (bl n - 1) ≤ n := by
  unfold bl; rw [if_neg h, Nat.add_sub_cancel]; exact Nat.log2_self_le h
theorem bl_pos {n : Nat} (h : n ≠ 0) : 0 < bl n := by unfold bl; rw [if_neg h]; omega
theorem bl_of {n k : Nat} (h1 : 2 ^ k ≤ n) (h2 : n < 2 ^ (k + 1)) : bl n = k + 1 := by
  have h0 : n ≠ 0 := by have := Nat.pow_pos (n := k) (show 0 < 2 by omega); omega
  have a := bl_lt n
  have b := bl_le h0
  have c := bl_pos h0
  have d1 := (Nat.pow_lt_pow_iff_right (a := 2) (by omega)).1 (Nat.lt_of_le_of_lt h1 a)
  have d2 := (Nat.pow_lt_pow_iff_right (a := 2) (by omega)).1 (Nat.lt_of_le_of_lt b h2)
  omega

/-- num / den is at least 2^L -/
def geP (num den : Nat) (L : Int) : Prop := den * 2 ^ L.toNat ≤ num * 2 ^ (-L).toNat
theorem two_pos (k : Nat) : 0 < 2 ^ k := Nat.pow_pos (by omega)
theorem geP_iff {num den A B : Nat} {L : Int} (h : (A : Int) - (B : Int) = L) : geP num den L ↔ den * 2 ^ A ≤ num * 2 ^ B := by
  obtain ⟨t, hA, hB⟩ : ∃ t, A = L.toNat + t ∧ B = (-L).toNat + t := ⟨A - L.toNat, by omega, by omega⟩
  unfold geP
  rw [hA, hB, Nat.pow_add, Nat.pow_add, ← Nat.mul_assoc, ← Nat.mul_assoc]
  exact (Nat.mul_le_mul_right_iff (two_pos t)).symm
theorem geP_mono {num den : Nat} {L L' : Int} (h : L' ≤ L) (hg : geP num den L) : geP num den L' := by
  rw [geP_iff (A := (L + (-L').toNat).toNat) (B := (-L').toNat) (by omega)] at hg
  rw [geP_iff (A := (L' + (-L').toNat).toNat) (B := (-L').toNat) (by omega)]
  exact Nat.le_trans (Nat.mul_le_mul_left _ (Nat.pow_le_pow_right (by omega) (by omega))) hg
theorem geP_scale {num den c : Nat} {L : Int} (hc : 0 < c) : geP (num * c) (den * c) L ↔ geP num den L := by
  unfold geP
  rw [Nat.mul_right_comm, Nat.mul_right_comm num]
  exact Nat.mul_le_mul_right_iff hc

/-- the greatest L with 2^L ≤ num / den, as the reference finds it -/
def lgQ (num den : Nat) : Int :=
  if num * 2 ^ (-((bl num : Int) - (bl den : Int))).toNat < den * 2 ^ ((bl num : Int) - (bl den : Int)).toNat then (bl num : Int) - (bl den : Int) - 1 else (bl num : Int) - (bl den : Int)
theorem lgQ_spec {num den : Nat} (hn : num ≠ 0) (hd : den ≠ 0) : geP num den (lgQ num den) ∧ ¬ geP num den (lgQ num den + 1) := by
  have a1 := bl_lt num
  have a2 := bl_le hn
  have a3 := bl_pos hn
  have b1 := bl_lt den
  have b2 := bl_le hd
  have b3 := bl_pos hd
  have lo : geP num den ((bl num : Int) - (bl den : Int) - 1) := by
    rw [geP_iff (A := bl num - 1) (B := bl den) (by omega), Nat.mul_comm]
    exact Nat.mul_le_mul a2 (Nat.le_of_lt b1)
  have hi : ¬ geP num den ((bl num : Int) - (bl den : Int) + 1) := by
    rw [geP_iff (A := bl num) (B := bl den - 1) (by omega), Nat.not_le, Nat.mul_comm den]
    exact Nat.mul_lt_mul_of_lt_of_le a1 b2 (by omega)
  unfold lgQ
  split
  · rename_i h
    refine ⟨lo, ?_⟩
    rw [Int.sub_add_cancel]
    unfold geP; omega
  · rename_i h
    refine ⟨?_, hi⟩
    unfold geP; omega
theorem lgQ_eq {num den : Nat} {L : Int} (hn : num ≠ 0) (hd : den ≠ 0) (h1 : geP num den L) (h2 : ¬ geP num den (L + 1)) : lgQ num den = L := by
  obtain ⟨g1, g2⟩ := lgQ_spec hn hd
  rcases Int.lt_trichotomy (lgQ num den) L with h | h | h
  · exact absurd (geP_mono (show lgQ num den + 1 ≤ L by omega) h1) g2
  · exact h
  · exact absurd (geP_mono (show L + 1 ≤ lgQ num den by omega) g1) h2
theorem lgQ_scale {num den c : Nat} (hn : num ≠ 0) (hd : den ≠ 0) (hc : 0 < c) : lgQ (num * c) (den * c) = lgQ num den := by
  obtain ⟨g1, g2⟩ := lgQ_spec hn hd
  exact lgQ_eq (Nat.mul_ne_zero hn (by omega)) (Nat.mul_ne_zero hd (by omega)) ((geP_scale hc).2 g1) (fun h => g2 ((geP_scale hc).1 h))

/-- the nearest whole number, halves to even -/
def rhe (n d : Nat) : Nat := n / d + if d < n % d * 2 ∨ (n % d * 2 = d ∧ n / d % 2 = 1) then 1 else 0
theorem rhe_scale {n d c : Nat} (hc : 0 < c) : rhe (n * c) (d * c) = rhe n d := by
  unfold rhe
  rw [Nat.mul_div_mul_right _ _ hc, Nat.mul_mod_mul_right, Nat.mul_right_comm (n % d)]
  have e1 : (d * c < n % d * 2 * c) ↔ (d < n % d * 2) := ⟨fun h => Nat.lt_of_mul_lt_mul_right h, fun h => Nat.mul_lt_mul_of_pos_right h hc⟩
  have e2 : (n % d * 2 * c = d * c) ↔ (n % d * 2 = d) := ⟨fun h => Nat.eq_of_mul_eq_mul_right hc h, fun h => by rw [h]⟩
  simp only [e1, e2]
theorem rhe_le (n d : Nat) : rhe n d ≤ n / d + 1 := by unfold rhe; split <;> omega
/-- the nearest multiple of 2^q -/
def rnQ (num den : Nat) (q : Int) : Nat := rhe (num * 2 ^ (-q).toNat) (den * 2 ^ q.toNat)
theorem rnQ_of {num den A B : Nat} {q : Int} (h : (A : Int) - (B : Int) = q) : rnQ num den q = rhe (num * 2 ^ B) (den * 2 ^ A) := by
  obtain ⟨t, hA, hB⟩ : ∃ t, A = q.toNat + t ∧ B = (-q).toNat + t := ⟨A - q.toNat, by omega, by omega⟩
  unfold rnQ
  rw [hA, hB, Nat.pow_add, Nat.pow_add, ← Nat.mul_assoc, ← Nat.mul_assoc, rhe_scale (two_pos t)]
/-- the place of the last digit that is kept -/
def qQ (frac : Nat) (least : Int) (num den : Nat) : Int := max (lgQ num den - (frac : Int)) least
/-- the rung of the nearest float: its bits without the sign -/
def rungQ (frac : Nat) (least : Int) (top num den : Nat) : Nat :=
  if num = 0 then 0 else min ((qQ frac least num den - least).toNat * 2 ^ frac + rnQ num den (qQ frac least num den)) (top * 2 ^ frac)
theorem rungQ_scale {frac top num den c : Nat} {least : Int} (hd : den ≠ 0) (hc : 0 < c) : rungQ frac least top (num * c) (den * c) = rungQ frac least top num den := by
  unfold rungQ
  by_cases hn : num = 0
  · subst hn; simp
  · rw [if_neg hn, if_neg (Nat.mul_ne_zero hn (by omega))]
    have e : qQ frac least (num * c) (den * c) = qQ frac least num den := by unfold qQ; rw [lgQ_scale hn hd hc]
    have e2 : rnQ (num * c) (den * c) (qQ frac least num den) = rnQ num den (qQ frac least num den) := by
      unfold rnQ
      rw [Nat.mul_right_comm, Nat.mul_right_comm den, rhe_scale hc]
    rw [e, e2]
theorem rungQ_same {frac top n d n' d' : Nat} {least : Int} (hd : d ≠ 0) (hd' : d' ≠ 0) (h : n * d' = n' * d) : rungQ frac least top n d = rungQ frac least top n' d' := by
  rw [← rungQ_scale (c := d') hd (by omega), ← rungQ_scale (c := d) (num := n') hd' (by omega), h, Nat.mul_comm d d']
theorem rnQ_bound {num den : Nat} {q L : Int} {k : Nat} (h : ¬ geP num den L) (hk : L = q + k) : num * 2 ^ (-q).toNat < den * 2 ^ q.toNat * 2 ^ k := by
  rw [geP_iff (A := q.toNat + k) (B := (-q).toNat) (by omega), Nat.not_le, Nat.pow_add, ← Nat.mul_assoc] at h
  exact h
/-- a float with a sign -/
def sgnB (neg : Bool) (sg r : Nat) : Nat := if neg then sg ||| r else r
end Go.Proofs.Ytfkhingkmfapbaa
