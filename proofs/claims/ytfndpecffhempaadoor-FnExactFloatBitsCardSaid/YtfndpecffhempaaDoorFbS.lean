/- Plain facts on the slow road: the whole number that is read off at the end is the nearest one. No function of the program is walked here. -/
import Derived.Test.YtfndpecffhempaaDoorFbR
namespace Go.Proofs.YtfndpecffhempaaDoor
open Go.RowKit

theorem rI_take {D l : List Nat} (d : Nat) (tr : Bool) (h : D.take l.length = l) : rI D l.length d tr = rI l l.length d tr := by
  have e1 : D.take (min d l.length) = l.take (min d l.length) := by
    have h' := congrArg (List.take (min d l.length)) h
    rw [List.take_take] at h'
    rw [← h']; congr 1; omega
  have e2 : ∀ i, i < l.length → nth D i = nth l i := fun i hi => by
    have h' : nth (D.take l.length) i = nth l i := by rw [h]
    rw [← h', nth_take hi]
  unfold rI intD shU
  rw [e1]
  congr 2
  by_cases hd : l.length ≤ d
  · rw [if_pos hd, if_pos hd]
  · rw [if_neg hd, if_neg hd, e2 d (by omega)]
    by_cases h0 : 0 < d
    · rw [e2 (d - 1) (by omega)]
    · rw [show d - 1 = d by omega, e2 d (by omega)]
theorem if_bool {b : Bool} {p : Prop} [Decidable p] (h : b = decide p) : (if b = true then 1 else 0 : Nat) = (if p then 1 else 0) := by
  subst h
  by_cases hp : p
  · rw [decide_eq_true hp, if_pos rfl, if_pos hp]
  · rw [decide_eq_false hp, if_neg (by simp), if_neg hp]
theorem rI_val {l : List Nat} {d M P2 : Nat} (tr : Bool) (hL : Digs l) (h0 : 0 < l.length) (hz : nth l (l.length - 1) ≠ 48) (hl : l.length ≤ 800) (hM : M = 5000) (hP : 10 ^ M = 2 * P2) :
    rI l l.length d tr = sv l d / 10 ^ M + if P2 < sv l d % 10 ^ M ∨ (sv l d % 10 ^ M = P2 ∧ (tr = true ∨ sv l d / 10 ^ M % 2 = 1)) then 1 else 0 := by
  have hp : 0 < 10 ^ M := Nat.pow_pos (by omega)
  unfold rI intD
  by_cases hd : l.length ≤ d
  · have e1 : sv l d = valD l * 10 ^ (d - l.length) * 10 ^ M := by
      unfold sv; rw [Nat.mul_assoc, ← Nat.pow_add]; congr 2; omega
    have e2 : shU l l.length d tr = false := by unfold shU; rw [if_pos hd]
    rw [e1, Nat.mul_div_cancel _ hp, Nat.mul_mod_left, e2, Nat.min_eq_right hd, List.take_length]
    simp only [Bool.false_eq_true, if_false]
    rw [if_neg (by omega)]
  · obtain ⟨j, hj⟩ : ∃ j, l.length = d + 1 + j := ⟨l.length - d - 1, by omega⟩
    have hsp : valD l = valD (l.take d) * 10 ^ (j + 1) + valD (l.drop d) := by
      have := valD_append (l.take d) (l.drop d)
      rw [List.take_append_drop, List.length_drop, show l.length - d = j + 1 by omega] at this
      exact this
    have hlt := valD_lt (digs_drop hL d)
    rw [List.length_drop, show l.length - d = j + 1 by omega] at hlt
    have hdd := drop_dig (l := l) (r := d) (by omega)
    rw [show l.length - d - 1 = j by omega] at hdd
    have hlt2 := valD_lt (digs_drop hL (d + 1))
    rw [List.length_drop, show l.length - (d + 1) = j by omega] at hlt2
    have hx := digs_nth hL (k := d) (by omega)
    obtain ⟨z, hzz⟩ : ∃ z, M = j + 1 + z := ⟨M - (j + 1), by omega⟩
    have e1 : sv l d = valD (l.take d) * 10 ^ M + valD (l.drop d) * 10 ^ z := by
      unfold sv
      rw [show (5000 + (d : Int) - (l.length : Int)).toNat = z by omega, hsp, Nat.add_mul, Nat.mul_assoc, ← Nat.pow_add, ← hzz]
    have hrem : valD (l.drop d) * 10 ^ z < 10 ^ M := by
      rw [hzz, Nat.pow_add]; exact Nat.mul_lt_mul_of_pos_right hlt (Nat.pow_pos (by omega))
    have e2 : sv l d / 10 ^ M = valD (l.take d) := by
      rw [e1, Nat.add_comm, Nat.add_mul_div_right _ _ hp, Nat.div_eq_of_lt hrem, Nat.zero_add]
    have e3 : sv l d % 10 ^ M = valD (l.drop d) * 10 ^ z := by
      rw [e1, Nat.add_comm, Nat.add_mul_mod_self_right, Nat.mod_eq_of_lt hrem]
    rw [e2, e3, Nat.min_eq_left (by omega), show d - l.length = 0 by omega, Nat.pow_zero, Nat.mul_one]
    congr 1
    have hP2 : P2 = 5 * 10 ^ j * 10 ^ z := by
      have : 10 ^ M = 2 * (5 * 10 ^ j * 10 ^ z) := by rw [hzz, Nat.pow_add, Nat.pow_succ]; generalize 10 ^ j = A; generalize 10 ^ z = B; rw [Nat.mul_comm A 10, Nat.mul_assoc, Nat.mul_assoc]; omega
      omega
    have hzp : 0 < 10 ^ z := Nat.pow_pos (by omega)
    have c1 : P2 < valD (l.drop d) * 10 ^ z ↔ 5 * 10 ^ j < valD (l.drop d) := by
      rw [hP2]; exact ⟨fun h => Nat.lt_of_mul_lt_mul_right h, fun h => Nat.mul_lt_mul_of_pos_right h hzp⟩
    have c2 : valD (l.drop d) * 10 ^ z = P2 ↔ valD (l.drop d) = 5 * 10 ^ j := by
      rw [hP2]; exact ⟨fun h => Nat.eq_of_mul_eq_mul_right hzp h, fun h => by rw [h]⟩
    simp only [c1, c2]
    rw [hdd]
    have hpar : (0 < d ∧ nth l (d - 1) % 2 = 1) ↔ valD (l.take d) % 2 = 1 := by
      by_cases hd0 : 0 < d
      · have e := snoc_of (m := l.take d) (by rw [List.length_take]; omega)
        rw [List.length_take, Nat.min_eq_left (by omega), nth_take (by omega), List.take_take, Nat.min_eq_left (by omega)] at e
        have hx1 := digs_nth hL (k := d - 1) (by omega)
        rw [e, valD_snoc]
        omega
      · rw [show d = 0 by omega]; simp [valD]
    have hrest : 0 < j → 0 < valD (l.drop (d + 1)) := fun hj0 => by
      have hlen : (l.drop (d + 1)).length = j := by rw [List.length_drop]; omega
      have e := snoc_of (m := l.drop (d + 1)) (by rw [hlen]; exact hj0)
      have e5 : nth (l.drop (d + 1)) (j - 1) = nth l (l.length - 1) := by
        simp only [nth, List.getD_eq_getElem?_getD, List.getElem?_drop]; congr 2; omega
      have hx2 := digs_nth hL (k := l.length - 1) (by omega)
      rw [hlen, e5] at e
      rw [e, valD_snoc]
      omega
    have hj0 : j = 0 → valD (l.drop (d + 1)) = 0 := fun h => by
      rw [List.drop_of_length_le (by omega)]; rfl
    have hpj : 0 < 10 ^ j := Nat.pow_pos (by omega)
    refine if_bool ?_
    unfold shU
    rw [if_neg hd]
    generalize valD (l.take d) = T at *
    generalize valD (l.drop (d + 1)) = Y at *
    generalize nth l d = x at *
    generalize 10 ^ j = B at *
    by_cases h5 : x = 53 ∧ d + 1 = l.length
    · obtain ⟨rfl, h6⟩ := h5
      have hjz : j = 0 := by omega
      have hY := hj0 hjz
      rw [if_pos ⟨rfl, h6⟩, hY]
      cases tr
      · rw [Bool.false_or, ← Bool.decide_and]
        by_cases hpp : T % 2 = 1
        · rw [decide_eq_true (hpar.2 hpp), decide_eq_true (.inr ⟨by omega, .inr hpp⟩)]
        · rw [decide_eq_false (fun h => hpp (hpar.1 h)), decide_eq_false]
          intro h
          rcases h with h | ⟨_, h | h⟩
          · omega
          · cases h
          · exact hpp h
      · rw [Bool.true_or, decide_eq_true (.inr ⟨by omega, .inl rfl⟩)]
    · rw [if_neg h5]
      have hYp : x = 53 → 0 < Y := fun e => hrest (by omega)
      by_cases h53 : 53 ≤ x
      · have hm : 5 * B ≤ (x - 48) * B := Nat.mul_le_mul_right _ (by omega)
        have hgt : 5 * B < (x - 48) * B + Y := by
          rcases Nat.eq_or_lt_of_le h53 with e | e
          · have := hYp e.symm; omega
          · have : 6 * B ≤ (x - 48) * B := Nat.mul_le_mul_right _ (by omega)
            omega
        rw [decide_eq_true h53, decide_eq_true (.inl hgt)]
      · have hm : (x - 48) * B ≤ 4 * B := Nat.mul_le_mul_right _ (by omega)
        rw [decide_eq_false h53, decide_eq_false]
        intro h
        rcases h with h | ⟨h, _⟩ <;> omega
/-- what RoundedInteger answers -/
def mantV (l : List Nat) (dp : Int) (tr : Bool) : Nat := if dp < 0 then 0 else rI l l.length dp.toNat tr
theorem mant_eq {M N S F G : Nat} {least L Q q : Int} {l : List Nat} {dp : Int} {tr : Bool} (R : Road M N S F G least L Q) (hq : q = max (L - F) least) (ha : App (gR M G Q) (S * 2 ^ N) l dp tr q) (hL : Lead l) (hl : l.length ≤ 800) (hz : nth l (l.length - 1) ≠ 48) (d0 : -4000 ≤ dp) : mantV l dp tr = rnQ S (10 ^ M) q := by
  obtain ⟨P2, hP⟩ : ∃ P2, 10 ^ M = 2 * P2 := ⟨5 * 10 ^ (M - 1), by
    have e : M = M - 1 + 1 := by have := R.hM; omega
    conv => lhs; rw [e]
    rw [Nat.pow_succ]; omega⟩
  have hp : 0 < 10 ^ M := Nat.pow_pos (by omega)
  have hqQ : Q ≤ q - 1 ∧ -1200 ≤ Q ∧ -1200 ≤ q := by
    have h1 := R.hQ
    have h2 := R.q
    rw [← hq] at h1
    rw [Int.min_def] at h1
    split at h1 <;> omega
  have hx : 0 < 2 ^ (q + 3000).toNat := two_pos _
  have e0 : rnQ S (10 ^ M) q = rhe (S * 2 ^ N) (10 ^ M * 2 ^ (q + 3000).toNat) := rnQ_of (by have := R.hN; omega)
  have eU : 2 ^ (Q + 3000).toNat * 10 ^ M * 2 ^ (q - 1 - Q).toNat * 2 = 10 ^ M * 2 ^ (q + 3000).toNat := by
    have : 2 ^ (q + 3000).toNat = 2 ^ (Q + 3000).toNat * 2 ^ (q - 1 - Q).toNat * 2 := by rw [← Nat.pow_add, ← Nat.pow_succ]; congr 1; omega
    rw [this]; ac_rfl
  have hw : 0 < 2 ^ (Q + 3000).toNat * 10 ^ M := Nat.mul_pos (two_pos _) hp
  have key := rhe_trunc hw (two_pos (q - 1 - Q).toNat) ha.1 ha.2.1 R.g1
  rw [eU] at key
  have eH : 2 ^ (Q + 3000).toNat * 10 ^ M * 2 ^ (q - 1 - Q).toNat = P2 * 2 ^ (q + 3000).toNat := by
    have h9 : 10 ^ M * 2 ^ (q + 3000).toNat = 2 * (P2 * 2 ^ (q + 3000).toNat) := by rw [hP, Nat.mul_assoc]
    rw [h9] at eU
    generalize 2 ^ (Q + 3000).toNat * 10 ^ M * 2 ^ (q - 1 - Q).toNat = Z at *
    omega
  rw [eH] at key
  have htr := ha.2.2
  rw [e0, key, Nat.mul_div_mul_right _ _ hx, Nat.mul_mod_mul_right]
  have c1 : P2 * 2 ^ (q + 3000).toNat < sv l dp % 10 ^ M * 2 ^ (q + 3000).toNat ↔ P2 < sv l dp % 10 ^ M := ⟨fun h => Nat.lt_of_mul_lt_mul_right h, fun h => Nat.mul_lt_mul_of_pos_right h hx⟩
  have c2 : sv l dp % 10 ^ M * 2 ^ (q + 3000).toNat = P2 * 2 ^ (q + 3000).toNat ↔ sv l dp % 10 ^ M = P2 := ⟨fun h => Nat.eq_of_mul_eq_mul_right hx h, fun h => by rw [h]⟩
  have c3 : (sv l dp * 2 ^ (q + 3000).toNat ≠ S * 2 ^ N) ↔ tr = true := by rw [htr]; simp
  simp only [c1, c2, c3]
  unfold mantV
  by_cases hd : dp < 0
  · rw [if_pos hd]
    have h2 := (sv_bounds hL (show (l.length : Int) ≤ 5000 + dp by omega)).2
    have h3 : 10 ^ (5000 + dp).toNat ≤ 10 ^ (M - 1) := Nat.pow_le_pow_right (by omega) (by have := R.hM; omega)
    have h4 : 10 ^ M = 10 * 10 ^ (M - 1) := by
      have e : M = M - 1 + 1 := by have := R.hM; omega
      conv => lhs; rw [e]
      rw [Nat.pow_succ, Nat.mul_comm]
    have h5 : sv l dp < 10 ^ M := by omega
    rw [Nat.div_eq_of_lt h5, Nat.mod_eq_of_lt h5, if_neg (by omega)]
  · rw [if_neg hd]
    obtain ⟨d, rfl⟩ := Int.eq_ofNat_of_zero_le (show 0 ≤ dp by omega)
    rw [Int.toNat_natCast]
    exact rI_val tr hL.1 hL.2.1 hz hl R.hM hP
end Go.Proofs.YtfndpecffhempaaDoor
