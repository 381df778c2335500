/- NatAdd of the reference, by a contract: it returns the sum. Conditions: at most 100000 digits to the base 2^32. -/
import Derived.Test.YtfkhingkmfapbaaNatS
namespace Go.Proofs.Ytfkhingkmfapbaa
open Go.RowKit

/-- ds and the carry are the sum of the digits so far -/
def AddInv (w wr : World) (a b M i : Nat) (v : Value) (c : Nat) : Prop :=
  ∃ ds : List Nat, wr.ownsRow w.heap.size 62 1 v ds.length (digitCells ds) ∧ (∀ d ∈ ds, d < 4294967296) ∧ ds.length = i ∧ c ≤ 1 ∧ Num.val ds + c * 4294967296 ^ i = Num.upto (Num.dig a) i + Num.upto (Num.dig b) i ∧ Below w.heap.size w wr ∧ (M < i → c = 0)
theorem add_start (w : World) (a b M : Nat) : AddInv w w a b M 0 (.slice none 0 0) 0 := ⟨[], ⟨rfl, .inl ⟨rfl, rfl⟩⟩, by simp, rfl, by omega, by simp [Num.upto, Num.val], Below.refl _ _, fun _ => rfl⟩
theorem add_step {w wr w1 : World} {a b M i c : Nat} {v' : Value} {ds : List Nat} {row : Option Nat} (hMa : Num.len a ≤ M) (hMb : Num.len b ≤ M)
    (h2 : ∀ d ∈ ds, d < 4294967296) (h3 : ds.length = i) (h4 : c ≤ 1) (h5 : Num.val ds + c * 4294967296 ^ i = Num.upto (Num.dig a) i + Num.upto (Num.dig b) i) (h6 : Below w.heap.size w wr)
    (hown : w1.ownsRow w.heap.size 62 1 v' (ds.length + 1) (digitCells ds ++ [.int .u32 (((c + (Num.dig a i + Num.dig b i)) % 4294967296 : Nat) : Int)])) (o : Obj) (hg : (wr.alloc o).grownBy w1 row) (hr : ∀ k, row = some k → w.heap.size ≤ k) :
    AddInv w w1 a b M (i + 1) v' ((c + (Num.dig a i + Num.dig b i)) / 4294967296) := by
  have da := Num.dig_lt a i
  have db := Num.dig_lt b i
  have hz : M < i + 1 → (c + (Num.dig a i + Num.dig b i)) / 4294967296 = 0 := by
    intro hM
    rw [Num.dig_end (n := a) (by omega), Num.dig_end (n := b) (by omega)]
    omega
  generalize hQ : c + (Num.dig a i + Num.dig b i) = Q at *
  refine ⟨ds ++ [Q % 4294967296], ?_, digits_snoc h2 (by omega), by simp; omega, by omega, ?_, (h6.alloc h6.size o).grown hg (Nat.le_trans h6.size (by simp)) hr, hz⟩
  · rw [digitCells_snoc]; simpa using hown
  · rw [Num.val_snoc, h3, Nat.pow_succ, Num.upto, Num.upto]
    have h1 : Q = Q % 4294967296 + 4294967296 * (Q / 4294967296) := by omega
    have h2 : (c + (Num.dig a i + Num.dig b i)) * 4294967296 ^ i = (Q % 4294967296 + 4294967296 * (Q / 4294967296)) * 4294967296 ^ i := by rw [hQ, ← h1]
    rw [Nat.add_mul, Nat.add_mul, Nat.add_mul] at h2
    generalize 4294967296 ^ i = P at *
    have h3 : Q / 4294967296 * (P * 4294967296) = 4294967296 * (Q / 4294967296) * P := by rw [Nat.mul_comm P, ← Nat.mul_assoc, Nat.mul_comm (Q / 4294967296)]
    rw [h3]
    omega
theorem add_end {w wr : World} {a b i : Nat} {v : Value} {ds : List Nat} (hMa : Num.len a ≤ i) (hMb : Num.len b ≤ i)
    (hown : wr.ownsRow w.heap.size 62 1 v ds.length (digitCells ds)) (h5 : Num.val ds + 0 * 4294967296 ^ i = Num.upto (Num.dig a) i + Num.upto (Num.dig b) i) : Row wr v ds ∧ Num.val ds = a + b := by
  refine ⟨row_of_own hown, ?_⟩
  rw [Num.upto_dig hMa, Num.upto_dig hMb] at h5
  omega

set_option maxHeartbeats 1000000 in
set_option maxRecDepth 100000 in
theorem natAdd_any (va vb : Value) (a b : Nat) (w : World) (ha : IsNat w va a) (hb : IsNat w vb b) (hla : Num.len a ≤ 100000) (hlb : Num.len b ≤ 100000) : Calls Try.prog 41 #[va, vb] w (GivesNat (a + b) w) := by
  have HA := Lib.hid ha
  have HB := Lib.hid hb
  obtain ⟨Aa, ca, rfl, la, la'⟩ := natLen_shape ha
  obtain ⟨Ab, cb, rfl, lb, lb'⟩ := natLen_shape hb
  clear ha hb
  obtain ⟨M, hMa, hMb, hM9, hM⟩ : ∃ M, Num.len a ≤ M ∧ Num.len b ≤ M ∧ M ≤ 100000 ∧ ((Num.len a < Num.len b ∧ M = Num.len b) ∨ (¬ Num.len a < Num.len b ∧ M = Num.len a)) := by
    by_cases h : Num.len a < Num.len b
    · exact ⟨Num.len b, by omega, by omega, by omega, .inl ⟨h, rfl⟩⟩
    · exact ⟨Num.len a, by omega, by omega, by omega, .inr ⟨h, rfl⟩⟩
  obtain ⟨i0, hi, hz0, hz1, hz2⟩ := info_parts info_u32
  rcases hM with ⟨hlt, rfl⟩ | ⟨hlt, rfl⟩
  · have hMn : Num.len b ≤ 100000 := hM9
    go_enter Try.func41, Try.ntmps41
    go_wp2_with fail
    go_loopw [5, 6, 7] (fun v c i wr => ∃ k q : Nat, k ≤ (Num.len b) + 1 ∧ i = .int .i64 k ∧ c = .int .u64 q ∧ AddInv w wr a b (Num.len b) k v q) (fun _ _ i _ => (Num.len b) + 1 - (intOf i).toNat)
    case atStart => exact ⟨0, 0, by omega, rfl, rfl, add_start w a b (Num.len b)⟩
    case round =>
      obtain ⟨i, q, hile, rfl, rfl, ds, hown, h2, h3, h4, h5, h6, h7⟩ := hrel
      have H2 := Lib.hid h2
      have H3 := Lib.hid h3
      have H5 := Lib.hid h5
      have H6 := Lib.hid h6
      have HO := Lib.hid hown
      have hdl : ds.length ≤ 200000 := by omega
      have HIA : Hid (IsNat wr (.slice Aa (Num.len a) ca) a) := HA.out.later h6
      have HIB : Hid (IsNat wr (.slice Ab (Num.len b) cb) b) := HB.out.later h6
      have H7 := Lib.hid h7
      clear h2 h3 h5 h7
      have d1 := Num.dig_lt a i
      have d2 := Num.dig_lt b i
      by_cases hgo : i < (Num.len b) ∨ 0 < q
      · have hi2 : i ≤ (Num.len b) := by
          rcases Nat.lt_or_ge (Num.len b) i with h' | h'
          · have := H7.out h'; omega
          · exact h'
        rcases (show i < (Num.len b) ∨ ((Num.len b) ≤ i ∧ 0 < q) by omega) with hA | ⟨hA, hA2⟩
        all_goals
          clear hgo
          go_wp2_with fail
          refine (digit_any _ a _ _ HIA.out (by omega) (by omega)).mono ?_
          rintro e w' ⟨rfl, rfl⟩
          go_wp2_with fail
          refine (digit_any _ b _ _ HIB.out (by omega) (by omega)).mono ?_
          rintro e w' ⟨rfl, rfl⟩
          rw [Int.toNat_natCast]
          obtain ⟨Q, hQe⟩ : ∃ Q, Q = q + (Num.dig a i + Num.dig b i) := ⟨_, rfl⟩
          have hQ9 : Q < 18446744073709551616 := by omega
          have hq1 : (q : Int) + ((Num.dig a i : Int) + (Num.dig b i : Int)) = (Q : Int) := by omega
          have HQ := Lib.hid hQe
          clear hQe
          go_wp2_with (at_builtin; refine wpList_append_own _ rfl _ _ 29 rfl w.heap.size 62 i0 (.int .u32 0) 1 4 Try.underlying29 hi hz0 hz1 hz2 rfl (by decide) _ _ _ rfl (hown.alloc _) ⟨_, 0, none⟩ 1 1 [.int .u32 ((Q : Int) % 4294967296)] rfl rfl ?c1 ?c2 ?c3 ?c4 ?c5 ?_)
          case c1 => exact cell_one_new _ _ _
          case c2 => intro u hu; simp at hu; subst hu; rfl
          case c3 => unfold maxLen; omega
          case c4 => omega
          case c5 => have := H6.out.size; simp; omega
          intro v' w2 hown' hgrow _
          have e2 : ((Q : Int) % 4294967296) = ((Q % 4294967296 : Nat) : Int) := by simp
          rw [e2, HQ.out] at hown'
          have R := Lib.hid (add_step hMa hMb H2.out H3.out h4 H5.out H6.out hown' _ hgrow (fun k hk => (World.ownsRow.lt HO.out k hk).1))
          clear hown' hgrow e2 hown hq1
          go_wp2_with fail
          go_roundw
          case rel => exact ⟨i + 1, _, by omega, by go_num, by rw [← HQ.out]; simp, R.out⟩
          case measure => simp [intOf]; omega
      · have hq0 : q = 0 := by omega
        have hiM : (Num.len b) ≤ i := by omega
        subst hq0
        obtain ⟨r1, r2⟩ := add_end (by omega) (by omega) hown H5.out
        have R1 := Lib.hid r1
        have R2 := Lib.hid r2
        clear r1 r2 hown hgo
        go_wp2_with fail
        refine (trim_any _ _ _ R1.out H2.out).mono ?_
        rintro e w' ⟨rfl, v, rfl, hv⟩
        rw [R2.out] at hv
        have H := Lib.hid hv
        clear hv
        go_wp2_with fail
        go_ret
        exact GivesNat.mk H.out H6.out
  · have hMn : Num.len a ≤ 100000 := hM9
    go_enter Try.func41, Try.ntmps41
    go_wp2_with fail
    go_loopw [5, 6, 7] (fun v c i wr => ∃ k q : Nat, k ≤ (Num.len a) + 1 ∧ i = .int .i64 k ∧ c = .int .u64 q ∧ AddInv w wr a b (Num.len a) k v q) (fun _ _ i _ => (Num.len a) + 1 - (intOf i).toNat)
    case atStart => exact ⟨0, 0, by omega, rfl, rfl, add_start w a b (Num.len a)⟩
    case round =>
      obtain ⟨i, q, hile, rfl, rfl, ds, hown, h2, h3, h4, h5, h6, h7⟩ := hrel
      have H2 := Lib.hid h2
      have H3 := Lib.hid h3
      have H5 := Lib.hid h5
      have H6 := Lib.hid h6
      have HO := Lib.hid hown
      have hdl : ds.length ≤ 200000 := by omega
      have HIA : Hid (IsNat wr (.slice Aa (Num.len a) ca) a) := HA.out.later h6
      have HIB : Hid (IsNat wr (.slice Ab (Num.len b) cb) b) := HB.out.later h6
      have H7 := Lib.hid h7
      clear h2 h3 h5 h7
      have d1 := Num.dig_lt a i
      have d2 := Num.dig_lt b i
      by_cases hgo : i < (Num.len a) ∨ 0 < q
      · have hi2 : i ≤ (Num.len a) := by
          rcases Nat.lt_or_ge (Num.len a) i with h' | h'
          · have := H7.out h'; omega
          · exact h'
        rcases (show i < (Num.len a) ∨ ((Num.len a) ≤ i ∧ 0 < q) by omega) with hA | ⟨hA, hA2⟩
        all_goals
          clear hgo
          go_wp2_with fail
          refine (digit_any _ a _ _ HIA.out (by omega) (by omega)).mono ?_
          rintro e w' ⟨rfl, rfl⟩
          go_wp2_with fail
          refine (digit_any _ b _ _ HIB.out (by omega) (by omega)).mono ?_
          rintro e w' ⟨rfl, rfl⟩
          rw [Int.toNat_natCast]
          obtain ⟨Q, hQe⟩ : ∃ Q, Q = q + (Num.dig a i + Num.dig b i) := ⟨_, rfl⟩
          have hQ9 : Q < 18446744073709551616 := by omega
          have hq1 : (q : Int) + ((Num.dig a i : Int) + (Num.dig b i : Int)) = (Q : Int) := by omega
          have HQ := Lib.hid hQe
          clear hQe
          go_wp2_with (at_builtin; refine wpList_append_own _ rfl _ _ 29 rfl w.heap.size 62 i0 (.int .u32 0) 1 4 Try.underlying29 hi hz0 hz1 hz2 rfl (by decide) _ _ _ rfl (hown.alloc _) ⟨_, 0, none⟩ 1 1 [.int .u32 ((Q : Int) % 4294967296)] rfl rfl ?c1 ?c2 ?c3 ?c4 ?c5 ?_)
          case c1 => exact cell_one_new _ _ _
          case c2 => intro u hu; simp at hu; subst hu; rfl
          case c3 => unfold maxLen; omega
          case c4 => omega
          case c5 => have := H6.out.size; simp; omega
          intro v' w2 hown' hgrow _
          have e2 : ((Q : Int) % 4294967296) = ((Q % 4294967296 : Nat) : Int) := by simp
          rw [e2, HQ.out] at hown'
          have R := Lib.hid (add_step hMa hMb H2.out H3.out h4 H5.out H6.out hown' _ hgrow (fun k hk => (World.ownsRow.lt HO.out k hk).1))
          clear hown' hgrow e2 hown hq1
          go_wp2_with fail
          go_roundw
          case rel => exact ⟨i + 1, _, by omega, by go_num, by rw [← HQ.out]; simp, R.out⟩
          case measure => simp [intOf]; omega
      · have hq0 : q = 0 := by omega
        have hiM : (Num.len a) ≤ i := by omega
        subst hq0
        obtain ⟨r1, r2⟩ := add_end (by omega) (by omega) hown H5.out
        have R1 := Lib.hid r1
        have R2 := Lib.hid r2
        clear r1 r2 hown hgo
        go_wp2_with fail
        refine (trim_any _ _ _ R1.out H2.out).mono ?_
        rintro e w' ⟨rfl, v, rfl, hv⟩
        rw [R2.out] at hv
        have H := Lib.hid hv
        clear hv
        go_wp2_with fail
        go_ret
        exact GivesNat.mk H.out H6.out
end Go.Proofs.Ytfkhingkmfapbaa
