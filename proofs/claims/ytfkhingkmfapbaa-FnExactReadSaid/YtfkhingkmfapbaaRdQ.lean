/- Plain facts for the law of Read: what the first 19 digits are of the whole number, and whether others that are not 0 were left out. No function of the program is walked here. -/
import Derived.Test.YtfkhingkmfapbaaRdO
import Derived.Test.YtfkhingkmfapbaaWPars
import Derived.Test.YtfkhingkmfapbaaCmp
namespace Go.Proofs.Ytfkhingkmfapbaa
open Go.RowKit

theorem tail_val {l : List Nat} (hd : Digs l) : (tailL l).length = 0 ↔ valD l = 0 := by
  obtain ⟨n, hn, e, hz⟩ := tailL_take l
  have f := fill_of hn hz
  have hv : valD l = valD (tailL l) * 10 ^ (l.length - n) := by
    have h1 := congrArg valD f
    rw [valD_append, valD_zeros, Nat.add_zero, List.length_replicate, ← e] at h1
    exact h1
  constructor
  · intro h
    rw [hv, List.eq_nil_of_length_eq_zero h, valD_nil, Nat.zero_mul]
  · intro h
    rcases tailL_last l with h1 | h1
    · rw [h1]; rfl
    · rcases Nat.eq_zero_or_pos (tailL l).length with h0 | h0
      · exact h0
      · exfalso
        have hdt := tailL_digs hd
        have h2 := digs_nth hdt (k := (tailL l).length - 1) (by omega)
        have h3 := snoc_of h0
        have h4 : 0 < valD (tailL l) := by
          rw [h3, valD_snoc]
          omega
        have h5 : 0 < 10 ^ (l.length - n) := Nat.pow_pos (by omega)
        have h6 := Nat.mul_pos h4 h5
        omega
theorem rd_split (H : List Nat) : valD H = rdM H * 10 ^ (H.length - min H.length 19) + valD (H.drop 19) := by
  have h := congrArg valD (List.take_append_drop 19 H)
  rw [valD_append, List.length_drop] at h
  rw [show H.length - min H.length 19 = H.length - 19 by omega]
  exact h.symm
theorem rd_pos {H : List Nat} (hd : Digs H) (h0 : 0 < H.length) (h1 : nth H 0 ≠ 48) : 0 < rdM H := by
  unfold rdM
  have h2 := digs_nth hd h0
  have e : H.take 19 = [nth H 0] ++ (H.take 19).drop 1 := by
    cases H with
    | nil => simp at h0
    | cons c r => rfl
  rw [e, valD_append]
  have h3 : 0 < 10 ^ ((H.take 19).drop 1).length := Nat.pow_pos (by omega)
  have h4 : 0 < valD [nth H 0] := by simp [valD]; omega
  have := Nat.mul_pos h4 h3
  omega
/-- nothing was left out: the number is the same -/
theorem rd_same {H : List Nat} {q x : Int} (ht : rdT H = false) (hx : rdM H ≠ 0 → x = q + ((H.length : Int) - (min H.length 19 : Nat))) : numT (rdM H) x * denT q = numT (valD H) q * denT x := by
  have h0 : valD (H.drop 19) = 0 := by
    unfold rdT at ht
    simpa using ht
  have h1 := rd_split H
  rw [h0, Nat.add_zero] at h1
  by_cases hm : rdM H = 0
  · have hv : valD H = 0 := by rw [h1, hm, Nat.zero_mul]
    rw [hm, hv]
    unfold numT
    rw [Nat.zero_mul, Nat.zero_mul, Nat.zero_mul, Nat.zero_mul]
  · have h2 := dec_same (x := rdM H) (y := valD H) (j := H.length - min H.length 19) (q := q) h1.symm
    have e : x = q + ((H.length - min H.length 19 : Nat) : Int) := by have := hx hm; omega
    rw [e]
    exact h2
/-- something was left out: the number lies between two -/
theorem rd_between {H : List Nat} {q x : Int} (hd : Digs H) (ht : rdT H = true) (hl : H.length ≤ 1600) (hx : x = q + ((H.length : Int) - (min H.length 19 : Nat))) : numT (rdM H) x * denT q < numT (valD H) q * denT x ∧ numT (valD H) q * denT x < numT (rdM H + 1) x * denT q := by
  have h0 : valD (H.drop 19) ≠ 0 := by
    unfold rdT at ht
    simpa using ht
  have h1 := rd_split H
  have h2 := valD_lt (digs_drop hd 19)
  rw [List.length_drop] at h2
  have e : x = q + ((H.length - min H.length 19 : Nat) : Int) := by omega
  have e2 : H.length - min H.length 19 = H.length - 19 := by omega
  have a1 := dec_same (x := rdM H) (y := rdM H * 10 ^ (H.length - min H.length 19)) (j := H.length - min H.length 19) (q := q) rfl
  have a2 := dec_same (x := rdM H + 1) (y := (rdM H + 1) * 10 ^ (H.length - min H.length 19)) (j := H.length - min H.length 19) (q := q) rfl
  rw [← e] at a1 a2
  have p1 : 0 < 10 ^ q.toNat := Nat.pow_pos (by omega)
  have p2 : 0 < 10 ^ (-x).toNat := Nat.pow_pos (by omega)
  have b1 : rdM H * 10 ^ (H.length - min H.length 19) < valD H := by omega
  have b2 : valD H < (rdM H + 1) * 10 ^ (H.length - min H.length 19) := by rw [Nat.add_mul, Nat.one_mul, e2]; rw [e2] at h1; omega
  unfold numT denT
  rw [a1, a2]
  exact ⟨Nat.mul_lt_mul_of_pos_right (Nat.mul_lt_mul_of_pos_right b1 p1) p2, Nat.mul_lt_mul_of_pos_right (Nat.mul_lt_mul_of_pos_right b2 p1) p2⟩
theorem natCmp_is (va vb : Value) (a b : Nat) (c : Int) (w : World) (ha : IsNat w va a) (hb : IsNat w vb b) (hc : cmpN a b = c) : Calls Try.prog 29 #[va, vb] w fun e w' => e = .returned (.int .i64 c) ∧ w = w' := by
  subst hc; exact natCmp_any va vb a b w ha hb
theorem cmp_is (r s : Value) (a b c d : Nat) (k : Int) (w : World) (hr : RatioIs w r a b) (hs : RatioIs w s c d) (l1 : Num.len a + Num.len d ≤ 1000000) (l2 : Num.len c + Num.len b ≤ 1000000) (hk : cmpN (a * d) (c * b) = k) :
    Calls Try.prog 14 #[r, s] w fun e w' => e = .returned (.int .i64 k) ∧ Below w.heap.size w w' := by
  subst hk; exact cmp_any r s a b c d w hr hs l1 l2
theorem ratioIs_mk {w : World} {vn vd : Value} {a b : Nat} (hn : IsNat w vn a) (hd : IsNat w vd b) : RatioIs w (.agg #[vn, vd]) a b := ⟨_, _, rfl, hn, hd⟩
theorem natOf_is (a : Int) (n : Nat) (w : World) (h : a = (n : Int)) (h1 : n ≤ 18446744073709551615) : Calls Try.prog 28 #[.int .u64 a] w (GivesNat n w) := by
  subst h
  have := natOf_any (n : Int) w (by omega) (by omega)
  rwa [Int.toNat_natCast] at this
end Go.Proofs.Ytfkhingkmfapbaa
