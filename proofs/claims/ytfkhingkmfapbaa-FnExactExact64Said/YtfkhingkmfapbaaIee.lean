/- Plain facts on IEEE words: the nearest word is the rung of the nearest float; reading an exact number back; products, quotients, order. No program is in sight. -/
import Derived.Test.YtfkhingkmfapbaaFRP
import Derived.Laws.FloatArith
namespace Go.Proofs.Ytfkhingkmfapbaa
open Ieee Go

theorem cut_even (neg : Bool) (n d : Nat) : Toward.even.cut neg n d = rhe n (2 ^ d) := by
  have hlt : n < 2 ^ (n.log2 + 1) := Nat.lt_log2_self
  have h2 : 2 ^ (n.log2 + 2) = 2 * 2 ^ (n.log2 + 1) := by rw [Nat.pow_succ, Nat.mul_comm]
  unfold Toward.cut
  simp only [Nat.one_shiftLeft]
  by_cases hd : d ≤ n.log2 + 2
  · rw [Nat.min_eq_left hd]
    unfold rhe
    congr 1
    by_cases h : 2 ^ d < n % 2 ^ d * 2 ∨ (n % 2 ^ d * 2 = 2 ^ d ∧ n / 2 ^ d % 2 = 1)
    · rw [if_pos h]
      have e : (decide (2 ^ d < 2 * (n % 2 ^ d)) || (2 ^ d == 2 * (n % 2 ^ d) && n / 2 ^ d % 2 == 1)) = true := by
        simp only [Bool.or_eq_true, decide_eq_true_eq, Bool.and_eq_true, beq_iff_eq]
        omega
      rw [e]; rfl
    · rw [if_neg h]
      have e : (decide (2 ^ d < 2 * (n % 2 ^ d)) || (2 ^ d == 2 * (n % 2 ^ d) && n / 2 ^ d % 2 == 1)) = false := by
        simp only [Bool.or_eq_false_iff, decide_eq_false_iff_not, Bool.and_eq_false_iff, beq_eq_false_iff_ne]
        omega
      rw [e]; rfl
  · rw [Nat.min_eq_right (by omega)]
    have h3 : 2 ^ (n.log2 + 2) ≤ 2 ^ d := Nat.pow_le_pow_right (by omega) (by omega)
    unfold rhe
    rw [Nat.div_eq_of_lt (by omega), Nat.mod_eq_of_lt (a := n) (b := 2 ^ (n.log2 + 2)) (by omega), Nat.div_eq_of_lt (by omega), Nat.mod_eq_of_lt (a := n) (b := 2 ^ d) (by omega)]
    have e : (decide (2 ^ (n.log2 + 2) < 2 * n) || (2 ^ (n.log2 + 2) == 2 * n && 0 % 2 == 1)) = false := by
      simp only [Bool.or_eq_false_iff, decide_eq_false_iff_not, Bool.and_eq_false_iff, beq_eq_false_iff_ne]
      omega
    rw [e, if_neg (by omega)]; rfl

theorem rhe_pow {m z a b a' b' : Nat} (h : a + b' = a' + b) : rhe (m * 2 ^ a) (z * 2 ^ b) = rhe (m * 2 ^ a') (z * 2 ^ b') := by
  rw [← rhe_scale (n := m * 2 ^ a) (c := 2 ^ b') (two_pos _), ← rhe_scale (n := m * 2 ^ a') (c := 2 ^ b) (two_pos _), Nat.mul_assoc, Nat.mul_assoc, Nat.mul_assoc, Nat.mul_assoc, ← Nat.pow_add, ← Nat.pow_add, ← Nat.pow_add, ← Nat.pow_add, h, Nat.add_comm b b']

/-- a format's numbers -/
structure FmtIs (f : Format) (F : Nat) (least : Int) (top : Nat) : Prop where
  frac : f.fractionBits = F
  least_ : f.leastPlace = least
  inf : f.infRung = top * 2 ^ F
theorem double_is : FmtIs double 52 (-1074) 2047 := ⟨rfl, by decide, by decide⟩
theorem single_is : FmtIs single 23 (-149) 255 := ⟨rfl, by decide, by decide⟩

theorem lgQ_pow {m : Nat} {p : Int} (hm : m ≠ 0) : lgQ (m * 2 ^ p.toNat) (2 ^ (-p).toNat) = p + m.log2 := by
  refine lgQ_eq (Nat.mul_ne_zero hm (by have := two_pos p.toNat; omega)) (by have := two_pos (-p).toNat; omega) ?_ ?_
  · rw [geP_iff (A := (p + m.log2 + (-p).toNat).toNat) (B := (-p).toNat) (by omega), ← Nat.pow_add, Nat.mul_assoc, ← Nat.pow_add]
    have h := Nat.log2_self_le hm
    have e : (-p).toNat + (p + m.log2 + (-p).toNat).toNat = m.log2 + (p.toNat + (-p).toNat) := by omega
    rw [e, Nat.pow_add]
    exact Nat.mul_le_mul_right _ h
  · rw [geP_iff (A := (p + m.log2 + 1 + (-p).toNat).toNat) (B := (-p).toNat) (by omega), ← Nat.pow_add, Nat.mul_assoc, ← Nat.pow_add, Nat.not_le]
    have h : m < 2 ^ (m.log2 + 1) := Nat.lt_log2_self
    have e : (-p).toNat + (p + m.log2 + 1 + (-p).toNat).toNat = (m.log2 + 1) + (p.toNat + (-p).toNat) := by omega
    rw [e, Nat.pow_add 2 (m.log2 + 1)]
    exact Nat.mul_lt_mul_of_pos_right h (two_pos _)

theorem nearest_rung {f : Format} {F : Nat} {least : Int} {top : Nat} (hf : FmtIs f F least top) (neg : Bool) (m : Nat) (p : Int) :
    f.nearest neg m p = f.word neg (rungQ F least top (m * 2 ^ p.toNat) (2 ^ (-p).toNat)) := by
  unfold Format.nearest
  by_cases hm : m = 0
  · subst hm
    rw [if_pos rfl, Nat.zero_mul]
    unfold rungQ
    rw [if_pos rfl]
  · rw [if_neg hm]
    have hn : m * 2 ^ p.toNat ≠ 0 := Nat.mul_ne_zero hm (by have := two_pos p.toNat; omega)
    have hq : qQ F least (m * 2 ^ p.toNat) (2 ^ (-p).toNat) = max (p + m.log2 - F) least := by unfold qQ; rw [lgQ_pow hm]
    unfold rungQ
    rw [if_neg hn, hq]
    simp only [hf.frac, hf.least_, hf.inf, Format.binade]
    generalize max (p + (m.log2 : Int) - F) least = q
    have e : Toward.even.cut neg (m <<< (p - q).toNat) (q - p).toNat = rnQ (m * 2 ^ p.toNat) (2 ^ (-p).toNat) q := by
      rw [cut_even, Nat.shiftLeft_eq]
      unfold rnQ
      rw [Nat.mul_assoc, ← Nat.pow_add, ← Nat.pow_add]
      have := rhe_pow (m := m) (z := 1) (a := (p - q).toNat) (b := (q - p).toNat) (a' := p.toNat + (-q).toNat) (b' := (-p).toNat + q.toNat) (by omega)
      rwa [Nat.one_mul, Nat.one_mul] at this
    rw [e]

theorem read_word (f : Format) (neg : Bool) (r : Nat) (hr : r < f.infRung) :
    f.read (f.word neg r) = if r < f.binade then .number neg r f.leastPlace else .number neg (f.binade + r % f.binade) (f.leastPlace + (r / f.binade - 1 : Nat)) := by
  have hlt := f.infRung_lt
  have hs : r < f.signWeight := by omega
  have h0 : 0 < f.signWeight := by omega
  have h1 : (f.word neg r / f.signWeight % 2 == 1) = neg := by
    cases neg
    · show (r / f.signWeight % 2 == 1) = false
      rw [Nat.div_eq_of_lt hs]; rfl
    · show ((f.signWeight + r) / f.signWeight % 2 == 1) = true
      rw [Nat.add_div_left _ h0, Nat.div_eq_of_lt hs]; rfl
  have h2 : f.word neg r % f.signWeight = r := by
    cases neg
    · exact Nat.mod_eq_of_lt hs
    · show (f.signWeight + r) % f.signWeight = r
      rw [Nat.add_mod_left]; exact Nat.mod_eq_of_lt hs
  unfold Format.read
  simp only [h1, h2, if_pos hr]

/-- the word is a number of this sign and this size -/
def Reads (f : Format) (x : Nat) (neg : Bool) (N : Nat) : Prop := ∃ m p, f.read x = .number neg m p ∧ m * 2 ^ p.toNat = N * 2 ^ (-p).toNat

theorem reads_zero {f : Format} {F : Nat} {least : Int} {top : Nat} (hf : FmtIs f F least top) (h2 : 0 < top) (neg : Bool) : Reads f (f.word neg 0) neg 0 := by
  refine ⟨0, f.leastPlace, ?_, by simp⟩
  rw [read_word f neg 0 (by rw [hf.inf]; exact Nat.mul_pos h2 (two_pos _)), if_pos (show 0 < f.binade from two_pos _)]

/-- a rung above the first binades -/
theorem read_high {f : Format} {F : Nat} {least : Int} {top : Nat} (hf : FmtIs f F least top) (neg : Bool) {g k : Nat} (h0 : 2 ^ F ≤ k) (h1 : k < 2 ^ (F + 1)) (h2 : g + 2 ≤ top) :
    f.read (f.word neg (g * 2 ^ F + k)) = .number neg k (least + g) := by
  have hp := two_pos F
  have e1 : 2 ^ (F + 1) = 2 * 2 ^ F := by rw [Nat.pow_succ, Nat.mul_comm]
  have hm : (g + 2) * 2 ^ F ≤ top * 2 ^ F := Nat.mul_le_mul_right _ h2
  rw [Nat.add_mul] at hm
  have hg : 2 ^ F ≤ g * 2 ^ F + k := by omega
  rw [read_word f neg _ (by rw [hf.inf]; omega)]
  simp only [Format.binade, hf.frac, hf.least_]
  rw [if_neg (by omega)]
  have e2 : g * 2 ^ F + k = (k - 2 ^ F) + 2 ^ F * (g + 1) := by rw [Nat.mul_add, Nat.mul_comm]; omega
  rw [e2, Nat.add_mul_mod_self_left, Nat.add_mul_div_left _ _ hp, Nat.mod_eq_of_lt (by omega), Nat.div_eq_of_lt (by omega)]
  rw [show 2 ^ F + (k - 2 ^ F) = k by omega, show 0 + (g + 1) - 1 = g by omega]

theorem lgQ_one {N : Nat} (hN : N ≠ 0) : lgQ N 1 = N.log2 := by
  have := lgQ_pow (m := N) (p := 0) hN
  simpa using this
/-- a number that the format has -/
theorem reads_exact {f : Format} {F : Nat} {least : Int} {top : Nat} (hf : FmtIs f F least top) (neg : Bool) {N a t : Nat} (he : N = a * 2 ^ t) (ha : a < 2 ^ (F + 1)) (hl : least ≤ -(F : Int)) (ht : (N.log2 : Int) - F - least + 2 ≤ top) :
    Reads f (f.word neg (rungQ F least top N 1)) neg N := by
  by_cases hN : N = 0
  · rw [hN]
    unfold rungQ
    rw [if_pos rfl]
    exact reads_zero hf (by omega) neg
  · have hL := lgQ_one hN
    have h1 := Nat.log2_self_le hN
    have h2 : N < 2 ^ (N.log2 + 1) := Nat.lt_log2_self
    obtain ⟨L, hLL⟩ : ∃ L, L = N.log2 := ⟨_, rfl⟩
    rw [← hLL] at hL h1 h2 ht
    have hq : qQ F least N 1 = (L : Int) - F := by unfold qQ; rw [hL]; omega
    have hk : ∃ k, rnQ N 1 ((L : Int) - F) = k ∧ k * 2 ^ ((L : Int) - F).toNat = N * 2 ^ (-((L : Int) - F)).toNat := by
      refine ⟨_, rfl, ?_⟩
      unfold rnQ
      rw [Nat.one_mul]
      rcases Nat.le_total L F with h | h
      · rw [show ((L : Int) - F).toNat = 0 by omega, Nat.pow_zero, Nat.mul_one]
        unfold rhe
        rw [Nat.div_one, Nat.mod_one, if_neg (by omega), Nat.add_zero]
      · have hd : 2 ^ ((L : Int) - F).toNat ∣ N := by
          rw [he]
          refine Nat.dvd_mul_left_of_dvd (Nat.pow_dvd_pow 2 ?_) a
          rcases Nat.lt_or_ge t (L - F) with h4 | h4
          · exfalso
            have h5 : N < 2 ^ (F + 1) * 2 ^ t := by rw [he]; exact Nat.mul_lt_mul_of_pos_right ha (two_pos t)
            rw [← Nat.pow_add] at h5
            have h6 := (Nat.pow_lt_pow_iff_right (a := 2) (by omega)).1 (Nat.lt_of_le_of_lt h1 h5)
            omega
          · omega
        obtain ⟨c, hc⟩ := hd
        rw [show (-((L : Int) - F)).toNat = 0 by omega, Nat.pow_zero, Nat.mul_one]
        unfold rhe
        rw [hc, Nat.mul_div_cancel_left _ (two_pos _), Nat.mul_mod_right, if_neg (by have := two_pos ((L : Int) - F).toNat; omega), Nat.add_zero, Nat.mul_comm]
    obtain ⟨k, hk1, hk2⟩ := hk
    have hk3 : 2 ^ F ≤ k ∧ k < 2 ^ (F + 1) := by
      have e1 : ((L : Int) - F).toNat + F = L + (-((L : Int) - F)).toNat := by omega
      constructor
      · refine Nat.le_of_mul_le_mul_right (c := 2 ^ ((L : Int) - F).toNat) ?_ (two_pos _)
        rw [hk2, ← Nat.pow_add, Nat.add_comm, e1, Nat.pow_add]
        exact Nat.mul_le_mul_right _ h1
      · refine Nat.lt_of_mul_lt_mul_right (a := 2 ^ ((L : Int) - F).toNat) ?_
        rw [hk2, ← Nat.pow_add, show F + 1 + ((L : Int) - F).toNat = (L + 1) + (-((L : Int) - F)).toNat by omega, Nat.pow_add]
        exact Nat.mul_lt_mul_of_pos_right h2 (two_pos _)
    have hr : rungQ F least top N 1 = ((L : Int) - F - least).toNat * 2 ^ F + k := by
      unfold rungQ
      rw [if_neg hN, hq, hk1]
      refine Nat.min_eq_left ?_
      have hm : (((L : Int) - F - least).toNat + 2) * 2 ^ F ≤ top * 2 ^ F := Nat.mul_le_mul_right _ (by omega)
      have e1 : 2 ^ (F + 1) = 2 * 2 ^ F := by rw [Nat.pow_succ, Nat.mul_comm]
      rw [Nat.add_mul] at hm
      omega
    refine ⟨k, (L : Int) - F, ?_, hk2⟩
    rw [hr, read_high hf neg hk3.1 hk3.2 (by omega)]
    congr 1
    omega

/-- a great number is read as a great number -/
theorem reads_great {f : Format} {F : Nat} {least : Int} {top : Nat} (hf : FmtIs f F least top) (neg : Bool) {N : Nat} (hN : 2 ^ (F + 1) ≤ N) (hl : least ≤ -(F : Int)) (ht : (N.log2 : Int) - F - least + 3 ≤ top) :
    ∃ N', 2 ^ (F + 1) ≤ N' ∧ Reads f (f.word neg (rungQ F least top N 1)) neg N' := by
  have hp := two_pos F
  have e1 : 2 ^ (F + 1) = 2 * 2 ^ F := by rw [Nat.pow_succ, Nat.mul_comm]
  have hN0 : N ≠ 0 := by have := two_pos (F + 1); omega
  have hL := lgQ_one hN0
  have h1 := Nat.log2_self_le hN0
  have h2 : N < 2 ^ (N.log2 + 1) := Nat.lt_log2_self
  obtain ⟨L, hLL⟩ : ∃ L, L = N.log2 := ⟨_, rfl⟩
  rw [← hLL] at hL h1 h2 ht
  have hLF : F + 1 ≤ L := by
    have := (Nat.pow_lt_pow_iff_right (a := 2) (by omega)).1 (Nat.lt_of_le_of_lt hN h2)
    omega
  have hq : qQ F least N 1 = (L : Int) - F := by unfold qQ; rw [hL]; omega
  obtain ⟨d, hd⟩ : ∃ d, d = L - F := ⟨_, rfl⟩
  have hk1 : rnQ N 1 ((L : Int) - F) = rhe N (2 ^ d) := by
    unfold rnQ
    rw [show (-((L : Int) - F)).toNat = 0 by omega, show ((L : Int) - F).toNat = d by omega, Nat.pow_zero, Nat.mul_one, Nat.one_mul]
  have hk2 : 2 ^ F ≤ N / 2 ^ d := by
    rw [Nat.le_div_iff_mul_le (two_pos d), ← Nat.pow_add, show F + d = L by omega]; exact h1
  have hk3 : N / 2 ^ d < 2 ^ (F + 1) := by
    rw [Nat.div_lt_iff_lt_mul (two_pos d), ← Nat.pow_add, show F + 1 + d = L + 1 by omega]; exact h2
  obtain ⟨k, hk⟩ : ∃ k, k = rhe N (2 ^ d) := ⟨_, rfl⟩
  have hk4 : 2 ^ F ≤ k ∧ k ≤ 2 ^ (F + 1) := by
    have h5 := rhe_le N (2 ^ d)
    have h6 : N / 2 ^ d ≤ rhe N (2 ^ d) := by unfold rhe; omega
    omega
  have hr : rungQ F least top N 1 = ((L : Int) - F - least).toNat * 2 ^ F + k := by
    unfold rungQ
    rw [if_neg hN0, hq, hk1, ← hk]
    refine Nat.min_eq_left ?_
    have hm : (((L : Int) - F - least).toNat + 2) * 2 ^ F ≤ top * 2 ^ F := Nat.mul_le_mul_right _ (by omega)
    rw [Nat.add_mul] at hm
    omega
  rw [hr]
  by_cases h : k < 2 ^ (F + 1)
  · refine ⟨k * 2 ^ d, ?_, k, (L : Int) - F, ?_, ?_⟩
    · have : 2 ^ F * 2 ^ 1 ≤ k * 2 ^ d := Nat.mul_le_mul hk4.1 (Nat.pow_le_pow_right (by omega) (by omega))
      rw [← Nat.pow_add] at this; exact this
    · rw [read_high hf neg hk4.1 h (by omega)]
      congr 1
      omega
    · rw [show (-((L : Int) - F)).toNat = 0 by omega, show ((L : Int) - F).toNat = d by omega, Nat.pow_zero, Nat.mul_one]
  · have hkk : k = 2 ^ (F + 1) := by omega
    have e2 : ((L : Int) - F - least).toNat * 2 ^ F + k = (((L : Int) - F - least).toNat + 1) * 2 ^ F + 2 ^ F := by
      rw [hkk, e1, Nat.add_mul]; omega
    refine ⟨2 ^ F * 2 ^ (d + 1), ?_, 2 ^ F, (L : Int) - F + 1, ?_, ?_⟩
    · have : 2 ^ F * 2 ^ 1 ≤ 2 ^ F * 2 ^ (d + 1) := Nat.mul_le_mul_left _ (Nat.pow_le_pow_right (by omega) (by omega))
      rw [← Nat.pow_add] at this; exact this
    · rw [e2, read_high hf neg (Nat.le_refl _) (by omega) (by omega)]
      congr 1
      omega
    · rw [show (-((L : Int) - F + 1)).toNat = 0 by omega, show ((L : Int) - F + 1).toNat = d + 1 by omega, Nat.pow_zero, Nat.mul_one]

theorem pow_swap {m N a b x y : Nat} (h : m * 2 ^ a = N * 2 ^ b) (e : a + y = x + b) : m * 2 ^ x = N * 2 ^ y := by
  have h1 : m * 2 ^ x * 2 ^ b = N * 2 ^ y * 2 ^ b := by
    rw [Nat.mul_assoc, ← Nat.pow_add, ← e, Nat.pow_add, ← Nat.mul_assoc, h, Nat.mul_assoc, Nat.mul_assoc, Nat.mul_comm (2 ^ b)]
  exact Nat.eq_of_mul_eq_mul_right (two_pos b) h1

theorem mul_reads {f : Format} {F : Nat} {least : Int} {top : Nat} (hf : FmtIs f F least top) {x y : Nat} {s t : Bool} {N K : Nat} (hx : Reads f x s N) (hy : Reads f y t K) :
    f.mul x y = some (f.word (s ^^ t) (rungQ F least top (N * K) 1)) := by
  obtain ⟨m, i, hx, em⟩ := hx
  obtain ⟨n, j, hy, en⟩ := hy
  unfold Format.mul
  rw [hx, hy]
  show some (f.nearest (s ^^ t) (m * n) (i + j)) = _
  rw [nearest_rung hf]
  congr 2
  refine rungQ_same (by have := two_pos (-(i + j)).toNat; omega) (by omega) ?_
  rw [Nat.mul_one]
  have h : m * n * 2 ^ (i.toNat + j.toNat) = N * K * 2 ^ ((-i).toNat + (-j).toNat) := by
    rw [Nat.pow_add, Nat.pow_add, Nat.mul_mul_mul_comm, em, en, Nat.mul_mul_mul_comm]
  exact pow_swap h (by omega)

/-- the nearest whole number, of what is cut -/
theorem rhe_cut {V T w c G : Nat} (hw : 0 < w) (hc : 0 < c) (h0 : G * w ≤ T) (h1 : T ≤ V) (h2 : V < (G + 1) * w) :
    rhe V (w * c * 2) = T / (w * c * 2) + if w * c < T % (w * c * 2) ∨ (T % (w * c * 2) = w * c ∧ (T ≠ V ∨ T / (w * c * 2) % 2 = 1)) then 1 else 0 := by
  have v1 : V / w = G := by
    apply Nat.le_antisymm
    · have := (Nat.div_lt_iff_lt_mul hw).2 h2; omega
    · exact (Nat.le_div_iff_mul_le hw).2 (Nat.le_trans h0 h1)
  have t1 : T / w = G := by
    apply Nat.le_antisymm
    · have := (Nat.div_lt_iff_lt_mul hw).2 (Nat.lt_of_le_of_lt h1 h2); omega
    · exact (Nat.le_div_iff_mul_le hw).2 h0
  have hh : 0 < w * c := Nat.mul_pos hw hc
  have v2 : V / (w * c) = G / c := by rw [← Nat.div_div_eq_div_mul, v1]
  have t2 : T / (w * c) = G / c := by rw [← Nat.div_div_eq_div_mul, t1]
  have vd := Nat.div_add_mod V (w * c)
  have td := Nat.div_add_mod T (w * c)
  have vm := Nat.mod_lt V hh
  have tm := Nat.mod_lt T hh
  unfold rhe
  rw [← Nat.div_div_eq_div_mul V, ← Nat.div_div_eq_div_mul T, Nat.mod_mul, Nat.mod_mul (x := T)]
  rw [v2] at vd ⊢
  rw [t2] at td ⊢
  generalize w * c = h at *
  generalize G / c = m at *
  generalize V % h = rv at *
  generalize T % h = rt at *
  have hle : rt ≤ rv := by omega
  rcases Nat.mod_two_eq_zero_or_one m with hm | hm
  · rw [hm, Nat.mul_zero, Nat.add_zero, Nat.add_zero, if_neg (by omega), if_neg (by omega)]
  · rw [hm, Nat.mul_one]
    congr 1
    by_cases hz : rt = 0
    · by_cases hv : rv = 0
      · have : T = V := by omega
        by_cases ho : m / 2 % 2 = 1
        · rw [if_pos (.inr ⟨by omega, ho⟩), if_pos (.inr ⟨by omega, .inr ho⟩)]
        · rw [if_neg (by omega), if_neg (by omega)]
      · rw [if_pos (.inl (by omega)), if_pos (.inr ⟨by omega, .inl (by omega)⟩)]
    · rw [if_pos (.inl (by omega)), if_pos (.inl (by omega))]

/-- a sticky bit serves for what is left over -/
theorem rhe_sticky {D n c : Nat} (hn : 0 < n) (hc : 0 < c) : rhe (2 * (D / n) + (D % n != 0).toNat) (2 * c * 2) = rhe (2 * D) (n * (2 * c * 2)) := by
  have hdm := Nat.div_add_mod D n
  have hml := Nat.mod_lt D hn
  obtain ⟨Q, hQ⟩ : ∃ Q, Q = D / n := ⟨_, rfl⟩
  obtain ⟨s, hs⟩ : ∃ s, s = (D % n != 0).toNat := ⟨_, rfl⟩
  have hs1 : s ≤ 1 := by rw [hs]; cases (D % n != 0) <;> simp
  have hs0 : s = 0 ↔ D % n = 0 := by
    rw [hs]
    by_cases h : D % n = 0
    · simp [h]
    · simp [h]
  rw [← hQ] at hdm
  rw [← hQ, ← hs]
  have e1 := rhe_cut (V := 2 * Q + s) (T := 2 * Q) (w := 2) (c := c) (G := Q) (by omega) hc (by omega) (by omega) (by omega)
  have e2 := rhe_cut (V := D) (T := n * Q) (w := n) (c := c) (G := Q) hn hc (by rw [Nat.mul_comm]; omega) (by omega) (by rw [Nat.add_mul, Nat.one_mul, Nat.mul_comm]; omega)
  have e3 : rhe (2 * D) (n * (2 * c * 2)) = rhe D (n * c * 2) := by
    have := rhe_scale (n := D) (d := n * c * 2) (c := 2) (by omega)
    rw [← this, Nat.mul_comm 2 D]
    congr 1
    rw [Nat.mul_comm 2 c, ← Nat.mul_assoc, ← Nat.mul_assoc]
  have hnc : 0 < n * c := Nat.mul_pos hn hc
  rw [e1, e3, e2, Nat.mul_assoc, Nat.mul_assoc n, Nat.mul_div_mul_left _ _ (show 0 < 2 by omega), Nat.mul_mod_mul_left, Nat.mul_div_mul_left _ _ hn, Nat.mul_mod_mul_left]
  congr 1
  have c1 : (2 * c < 2 * (Q % (c * 2))) ↔ (n * c < n * (Q % (c * 2))) := by
    rw [Nat.mul_lt_mul_left hn]; omega
  have c2 : (2 * (Q % (c * 2)) = 2 * c) ↔ (n * (Q % (c * 2)) = n * c) := by
    constructor
    · intro h; rw [show Q % (c * 2) = c by omega]
    · intro h; rw [Nat.eq_of_mul_eq_mul_left hn h]
  have c3 : (2 * Q ≠ 2 * Q + s) ↔ (n * Q ≠ D) := by omega
  simp only [c1, c2, c3]

theorem sticky_ge {D n L : Nat} (hn : 0 < n) : geP (2 * (D / n) + (D % n != 0).toNat) 1 ((L + 1 : Nat) : Int) ↔ geP (2 * D) n ((L + 1 : Nat) : Int) := by
  have hs1 : (D % n != 0).toNat ≤ 1 := by cases (D % n != 0) <;> simp
  unfold geP
  rw [Int.toNat_natCast, show (-((L + 1 : Nat) : Int)).toNat = 0 by omega, Nat.pow_zero, Nat.mul_one, Nat.mul_one, Nat.one_mul, Nat.pow_succ, Nat.mul_comm (2 ^ L) 2]
  have e : n * (2 * 2 ^ L) = 2 * (2 ^ L * n) := by rw [Nat.mul_left_comm, Nat.mul_comm n]
  rw [e]
  have h := Nat.le_div_iff_mul_le (x := 2 ^ L) (y := D) hn
  omega

theorem geP_shift {num den A B : Nat} {L : Int} : geP (num * 2 ^ A) (den * 2 ^ B) (L + A - B) ↔ geP num den L := by
  rw [geP_iff (A := (L + A - B + (L.natAbs + A + B : Nat)).toNat) (B := L.natAbs + A + B) (by omega), geP_iff (num := num) (den := den) (A := (L + L.natAbs).toNat) (B := L.natAbs) (by omega)]
  rw [Nat.mul_assoc, Nat.mul_assoc, ← Nat.pow_add, ← Nat.pow_add]
  have e1 : B + (L + A - B + (L.natAbs + A + B : Nat)).toNat = (L + L.natAbs).toNat + (A + A + B) := by omega
  have e2 : A + (L.natAbs + A + B) = L.natAbs + (A + A + B) := by omega
  rw [e1, e2, Nat.pow_add, Nat.pow_add 2 L.natAbs, ← Nat.mul_assoc, ← Nat.mul_assoc]
  exact Nat.mul_le_mul_right_iff (two_pos _)
theorem lgQ_shift {num den A B : Nat} (hn : num ≠ 0) (hd : den ≠ 0) : lgQ (num * 2 ^ A) (den * 2 ^ B) = lgQ num den + A - B := by
  obtain ⟨g1, g2⟩ := lgQ_spec hn hd
  refine lgQ_eq (Nat.mul_ne_zero hn (by have := two_pos A; omega)) (Nat.mul_ne_zero hd (by have := two_pos B; omega)) (geP_shift.2 g1) ?_
  rw [show lgQ num den + A - B + 1 = (lgQ num den + 1) + A - B by omega]
  exact fun h => g2 (geP_shift.1 h)

theorem rungQ_sticky {F top D n A B : Nat} {least : Int} (hn : 0 < n) (hX : 2 ^ (F + 1) ≤ D / n) :
    rungQ F least top ((2 * (D / n) + (D % n != 0).toNat) * 2 ^ A) (1 * 2 ^ B) = rungQ F least top (2 * D * 2 ^ A) (n * 2 ^ B) := by
  have hs1 : (D % n != 0).toNat ≤ 1 := by cases (D % n != 0) <;> simp
  have hp := two_pos (F + 1)
  have hX0 : 2 * (D / n) + (D % n != 0).toNat ≠ 0 := by omega
  have hDn : D / n ≤ D := Nat.div_le_self _ _
  have hD0 : 2 * D ≠ 0 := by omega
  obtain ⟨g1, g2⟩ := lgQ_spec hX0 (show (1 : Nat) ≠ 0 by omega)
  have hg : ((F + 2 : Nat) : Int) ≤ lgQ (2 * (D / n) + (D % n != 0).toNat) 1 := by
    rcases Int.lt_or_le (lgQ (2 * (D / n) + (D % n != 0).toNat) 1) ((F + 2 : Nat) : Int) with h | h
    · exfalso
      refine g2 (geP_mono (L := ((F + 2 : Nat) : Int)) (by omega) ?_)
      unfold geP
      rw [Int.toNat_natCast, show (-((F + 2 : Nat) : Int)).toNat = 0 by omega, Nat.pow_zero, Nat.mul_one, Nat.one_mul]
      have e : 2 ^ (F + 2) = 2 * 2 ^ (F + 1) := by rw [Nat.pow_succ, Nat.mul_comm]
      omega
    · exact h
  obtain ⟨l, hl⟩ : ∃ l : Nat, lgQ (2 * (D / n) + (D % n != 0).toNat) 1 = ((l + 1 : Nat) : Int) := ⟨(lgQ (2 * (D / n) + (D % n != 0).toNat) 1 - 1).toNat, by omega⟩
  rw [hl] at g1 g2 hg
  have hlg : lgQ (2 * D) n = ((l + 1 : Nat) : Int) := by
    refine lgQ_eq hD0 (by omega) ((sticky_ge hn).1 g1) ?_
    have := sticky_ge (D := D) (L := l + 1) hn
    intro h
    exact g2 (this.2 h)
  unfold rungQ
  rw [if_neg (Nat.mul_ne_zero hX0 (by have := two_pos A; omega)), if_neg (Nat.mul_ne_zero hD0 (by have := two_pos A; omega))]
  have hq : qQ F least ((2 * (D / n) + (D % n != 0).toNat) * 2 ^ A) (1 * 2 ^ B) = qQ F least (2 * D * 2 ^ A) (n * 2 ^ B) := by
    unfold qQ
    rw [lgQ_shift hX0 (by omega), lgQ_shift hD0 (by omega), hl, hlg]
  have hq2 : (A : Int) - B + 2 ≤ qQ F least (2 * D * 2 ^ A) (n * 2 ^ B) := by
    unfold qQ
    rw [lgQ_shift hD0 (by omega), hlg]
    omega
  rw [hq]
  generalize qQ F least (2 * D * 2 ^ A) (n * 2 ^ B) = q at *
  have hr : rnQ ((2 * (D / n) + (D % n != 0).toNat) * 2 ^ A) (1 * 2 ^ B) q = rnQ (2 * D * 2 ^ A) (n * 2 ^ B) q := by
    unfold rnQ
    obtain ⟨e, he⟩ : ∃ e : Nat, (e : Int) = q + B - A - 2 := ⟨(q + B - A - 2).toNat, by omega⟩
    rw [Nat.mul_assoc _ (2 ^ A), Nat.mul_assoc _ (2 ^ B), Nat.mul_assoc _ (2 ^ A), Nat.mul_assoc _ (2 ^ B), ← Nat.pow_add, ← Nat.pow_add]
    rw [rhe_pow (m := 2 * (D / n) + (D % n != 0).toNat) (z := 1) (a := A + (-q).toNat) (b := B + q.toNat) (a' := 0) (b' := e + 2) (by omega)]
    rw [rhe_pow (m := 2 * D) (z := n) (a := A + (-q).toNat) (b := B + q.toNat) (a' := 0) (b' := e + 2) (by omega)]
    rw [Nat.pow_zero, Nat.mul_one, Nat.mul_one, Nat.one_mul]
    have e4 : 2 ^ (e + 2) = 2 * 2 ^ e * 2 := by rw [Nat.pow_succ, Nat.pow_succ, Nat.mul_comm (2 ^ e)]
    rw [e4]
    exact rhe_sticky hn (two_pos e)
  rw [hr]

theorem div_reads {f : Format} {F : Nat} {least : Int} {top : Nat} (hf : FmtIs f F least top) {x y : Nat} {s t : Bool} {N K : Nat} (hx : Reads f x s N) (hy : Reads f y t K) (hK : K ≠ 0) :
    f.div x y = some (f.word (s ^^ t) (rungQ F least top N K)) := by
  obtain ⟨m, i, hx, em⟩ := hx
  obtain ⟨n, j, hy, en⟩ := hy
  have hn : n ≠ 0 := by
    intro h
    rw [h, Nat.zero_mul] at en
    exact absurd en.symm (Nat.mul_ne_zero hK (by have := two_pos (-j).toNat; omega))
  unfold Format.div
  rw [hx, hy]
  unfold Datum.quotient
  simp only [if_neg hn, hf.frac]
  obtain ⟨D, hD⟩ : ∃ D, D = m <<< (F + 2 + n.log2 - m.log2) := ⟨_, rfl⟩
  obtain ⟨mo, hmo⟩ : ∃ mo, mo = F + 2 + n.log2 - m.log2 := ⟨_, rfl⟩
  rw [← hmo] at hD ⊢
  rw [← hD]
  rw [Nat.shiftLeft_eq] at hD
  show some (f.nearest (s ^^ t) _ _) = _
  rw [nearest_rung hf]
  congr 2
  by_cases hm : m = 0
  · have hN : N = 0 := by
      rw [hm, Nat.zero_mul] at em
      rcases Nat.eq_zero_or_pos N with h | h
      · exact h
      · exact absurd em.symm (Nat.mul_ne_zero (by omega) (by have := two_pos (-i).toNat; omega))
    have hD0 : D = 0 := by rw [hD, hm, Nat.zero_mul]
    rw [hD0, hN, Nat.zero_div, Nat.zero_mod]
    unfold rungQ
    rw [if_pos (by simp), if_pos rfl]
  · have hm1 := Nat.log2_self_le hm
    have hn1 : n < 2 ^ (n.log2 + 1) := Nat.lt_log2_self
    have hX : 2 ^ (F + 1) ≤ D / n := by
      rw [Nat.le_div_iff_mul_le (by omega)]
      have h1 : 2 ^ (F + 1) * n ≤ 2 ^ (F + 1) * 2 ^ (n.log2 + 1) := Nat.mul_le_mul_left _ (by omega)
      have h2 : 2 ^ m.log2 * 2 ^ mo ≤ D := by rw [hD]; exact Nat.mul_le_mul_right _ hm1
      rw [← Nat.pow_add] at h1 h2
      have h3 : 2 ^ (F + 1 + (n.log2 + 1)) ≤ 2 ^ (m.log2 + mo) := Nat.pow_le_pow_right (by omega) (by omega)
      omega
    have key := rungQ_sticky (F := F) (top := top) (least := least) (A := (i - j - mo - 1).toNat) (B := (-(i - j - mo - 1)).toNat) (show 0 < n by omega) hX
    rw [Nat.one_mul] at key
    rw [key]
    refine rungQ_same (Nat.mul_ne_zero hn (by have := two_pos (-(i - j - mo - 1)).toNat; omega)) hK ?_
    have e1 : 2 * D = m * 2 ^ (mo + 1) := by rw [hD, Nat.pow_succ, Nat.mul_comm 2, Nat.mul_assoc]
    rw [e1]
    have h : (m * K) * 2 ^ (i.toNat + (-j).toNat) = (N * n) * 2 ^ ((-i).toNat + j.toNat) := by
      rw [Nat.pow_add, Nat.pow_add, Nat.mul_mul_mul_comm, em, ← en, Nat.mul_mul_mul_comm]
    have h2 := pow_swap (x := mo + 1 + (i - j - mo - 1).toNat) (y := (-(i - j - mo - 1)).toNat) h (by omega)
    rw [Nat.pow_add] at h2
    calc m * 2 ^ (mo + 1) * 2 ^ (i - j - mo - 1).toNat * K = m * K * (2 ^ (mo + 1) * 2 ^ (i - j - mo - 1).toNat) := by
          rw [Nat.mul_assoc, Nat.mul_assoc, Nat.mul_assoc, Nat.mul_comm K, Nat.mul_assoc]
      _ = N * n * 2 ^ (-(i - j - mo - 1)).toNat := h2
      _ = N * (n * 2 ^ (-(i - j - mo - 1)).toNat) := Nat.mul_assoc _ _ _

/-! order -/
def sgI (s : Bool) (N : Nat) : Int := if s then -(N : Int) else N
theorem cmp_scale {a b : Int} {c : Nat} (hc : 0 < c) : compare (a * (c : Int)) (b * (c : Int)) = compare a b := by
  have h0 : (0 : Int) < c := by omega
  show compareOfLessAndEq _ _ = compareOfLessAndEq _ _
  unfold compareOfLessAndEq
  have h1 : (a * (c : Int) < b * (c : Int)) ↔ a < b := Int.mul_lt_mul_right h0
  have h2 : (a * (c : Int) = b * (c : Int)) ↔ a = b := Int.mul_eq_mul_right_iff (by omega)
  simp only [h1, h2]
theorem sgI_mul (s : Bool) (N c : Nat) : sgI s (N * c) = sgI s N * (c : Int) := by
  cases s
  · show ((N * c : Nat) : Int) = (N : Int) * c
    exact Int.natCast_mul _ _
  · show -((N * c : Nat) : Int) = -(N : Int) * c
    rw [Int.natCast_mul, Int.neg_mul]
theorem order_reads {f : Format} {x y : Nat} {s t : Bool} {N K : Nat} (hx : Reads f x s N) (hy : Reads f y t K) : f.order x y = some (compare (sgI s N) (sgI t K)) := by
  obtain ⟨m, i, hx, em⟩ := hx
  obtain ⟨n, j, hy, en⟩ := hy
  unfold Format.order
  rw [hx, hy]
  show some (compare (Ieee.signed s m (i - min i j).toNat) (Ieee.signed t n (j - min i j).toNat)) = _
  generalize hz : min i j = z
  have hs : ∀ (s : Bool) (m k : Nat), Ieee.signed s m k = sgI s (m * 2 ^ k) := fun s m k => by
    unfold Ieee.signed sgI
    rw [Nat.shiftLeft_eq]
  rw [hs, hs]
  congr 1
  rw [← cmp_scale (a := sgI s (m * 2 ^ (i - z).toNat)) (two_pos z.toNat), ← cmp_scale (a := sgI s N) (two_pos (-z).toNat), ← sgI_mul, ← sgI_mul, ← sgI_mul, ← sgI_mul, Nat.mul_assoc, Nat.mul_assoc, ← Nat.pow_add, ← Nat.pow_add]
  rw [pow_swap (x := (i - z).toNat + z.toNat) (y := (-z).toNat) em (by omega), pow_swap (x := (j - z).toNat + z.toNat) (y := (-z).toNat) en (by omega)]
theorem gt_reads {f : Format} {x y : Nat} {s t : Bool} {N K : Nat} (hx : Reads f x s N) (hy : Reads f y t K) : (f.order x y == some .gt) = decide (sgI t K < sgI s N) := by
  rw [order_reads hx hy]
  show (some (compareOfLessAndEq _ _) == some Ordering.gt) = _
  unfold compareOfLessAndEq
  rcases Int.lt_trichotomy (sgI s N) (sgI t K) with h | h | h
  · rw [if_pos h, decide_eq_false (by omega)]; rfl
  · rw [if_neg (by omega), if_pos h, decide_eq_false (by omega)]; rfl
  · rw [if_neg (by omega), if_neg (by omega), decide_eq_true h]; rfl
theorem lt_reads {f : Format} {x y : Nat} {s t : Bool} {N K : Nat} (hx : Reads f x s N) (hy : Reads f y t K) : (f.order x y == some .lt) = decide (sgI s N < sgI t K) := by
  rw [order_reads hx hy]
  show (some (compareOfLessAndEq _ _) == some Ordering.lt) = _
  unfold compareOfLessAndEq
  rcases Int.lt_trichotomy (sgI s N) (sgI t K) with h | h | h
  · rw [if_pos h, decide_eq_true h]; rfl
  · rw [if_neg (by omega), if_pos h, decide_eq_false (by omega)]; rfl
  · rw [if_neg (by omega), if_neg (by omega), decide_eq_false (by omega)]; rfl

/-! the sign bit -/
theorem xor_top {i r : Nat} (h : r < 2 ^ i) : r ^^^ 2 ^ i = 2 ^ i + r := by
  have e : 2 ^ i + r = 2 ^ i ||| r := by have := Nat.two_pow_add_eq_or_of_lt h 1; rwa [Nat.mul_one] at this
  rw [e]
  apply Nat.eq_of_testBit_eq
  intro j
  rw [Nat.testBit_xor, Nat.testBit_or, Nat.testBit_two_pow]
  by_cases hj : i = j
  · subst hj
    rw [Nat.testBit_lt_two_pow h]; simp
  · simp [hj]
theorem neg_word {k : FloatKind} {r : Nat} (h : r < k.format.signWeight) : Op.negFloat k (k.format.word false r) = k.format.word true r := xor_top h
theorem sgnB_word {f : Format} {sg : Nat} (hs : f.signWeight = sg) (neg : Bool) {r : Nat} (h : r < f.signWeight) : sgnB neg sg r = f.word neg r := by
  subst hs
  cases neg
  · rfl
  · show f.signWeight ||| r = f.signWeight + r
    have := Nat.two_pow_add_eq_or_of_lt (i := f.exponentBits + f.fractionBits) h 1
    rw [Nat.mul_one] at this
    exact this.symm
end Go.Proofs.Ytfkhingkmfapbaa
