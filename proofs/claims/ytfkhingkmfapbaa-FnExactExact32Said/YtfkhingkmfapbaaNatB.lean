/- NatSub of the reference, by a contract: it returns the difference of a and b, b not greater. Condition: at most 100000 digits to the base 2^32. -/
import Derived.Test.YtfkhingkmfapbaaNatS
namespace Go.Proofs.Ytfkhingkmfapbaa
open Go.RowKit

/-- ds and the borrow are the difference of the digits so far -/
def SubInv (w wr : World) (a b i : Nat) (v : Value) (c : Nat) : Prop :=
  ∃ ds : List Nat, wr.ownsRow w.heap.size 62 1 v ds.length (digitCells ds) ∧ (∀ d ∈ ds, d < 4294967296) ∧ ds.length = i ∧ c ≤ 1 ∧ Num.val ds + Num.upto (Num.dig b) i = Num.upto (Num.dig a) i + c * 4294967296 ^ i ∧ Below w.heap.size w wr
theorem sub_start (w : World) (a b : Nat) : SubInv w w a b 0 (.slice none 0 0) 0 := ⟨[], ⟨rfl, .inl ⟨rfl, rfl⟩⟩, by simp, rfl, by omega, by simp [Num.upto, Num.val], Below.refl _ _⟩
theorem val_lt {ds : List Nat} (h : ∀ d ∈ ds, d < 4294967296) : Num.val ds < 4294967296 ^ ds.length := by
  rw [Num.val_eq]
  exact Num.upto_lt (fun i _ => Num.getD_lt h i)
theorem sub_step {w wr w1 : World} {a b i c Q : Nat} {v' : Value} {ds : List Nat} {row : Option Nat} (hQ : Q + Num.dig b i + c = 4294967296 + Num.dig a i)
    (h2 : ∀ d ∈ ds, d < 4294967296) (h3 : ds.length = i) (h4 : c ≤ 1) (h5 : Num.val ds + Num.upto (Num.dig b) i = Num.upto (Num.dig a) i + c * 4294967296 ^ i) (h6 : Below w.heap.size w wr)
    (hown : w1.ownsRow w.heap.size 62 1 v' (ds.length + 1) (digitCells ds ++ [.int .u32 ((Q % 4294967296 : Nat) : Int)])) (o : Obj) (hg : (wr.alloc o).grownBy w1 row) (hr : ∀ k, row = some k → w.heap.size ≤ k) :
    SubInv w w1 a b (i + 1) v' (1 - Q / 4294967296) := by
  have da := Num.dig_lt a i
  have db := Num.dig_lt b i
  refine ⟨ds ++ [Q % 4294967296], ?_, digits_snoc h2 (by omega), by simp; omega, by omega, ?_, (h6.alloc h6.size o).grown hg (Nat.le_trans h6.size (by simp)) hr⟩
  · rw [digitCells_snoc]; simpa using hown
  · rw [Num.val_snoc, h3, Nat.pow_succ, Num.upto, Num.upto]
    have e : Q % 4294967296 + Num.dig b i + c = Num.dig a i + (1 - Q / 4294967296) * 4294967296 := by omega
    have e2 := congrArg (· * 4294967296 ^ i) e
    simp only [Nat.add_mul, Nat.mul_assoc] at e2
    rw [Nat.mul_comm 4294967296 (4294967296 ^ i)] at e2
    omega
theorem sub_end {w wr : World} {a b c : Nat} {v : Value} {ds : List Nat} (hba : b ≤ a) (h2 : ∀ d ∈ ds, d < 4294967296) (h3 : ds.length = Num.len a) (h4 : c ≤ 1)
    (hown : wr.ownsRow w.heap.size 62 1 v ds.length (digitCells ds)) (h5 : Num.val ds + Num.upto (Num.dig b) (Num.len a) = Num.upto (Num.dig a) (Num.len a) + c * 4294967296 ^ Num.len a) : Row wr v ds ∧ Num.val ds = a - b := by
  refine ⟨row_of_own hown, ?_⟩
  rw [Num.upto_dig (Nat.le_refl _), Num.upto_dig (Num.len_mono hba)] at h5
  have h6 := val_lt h2
  rw [h3] at h6
  rcases (show c = 0 ∨ c = 1 by omega) with rfl | rfl
  · omega
  · omega

set_option maxHeartbeats 1000000 in
set_option maxRecDepth 100000 in
theorem natSub_any (va vb : Value) (a b : Nat) (w : World) (ha : IsNat w va a) (hb : IsNat w vb b) (hba : b ≤ a) (hla : Num.len a ≤ 100000) : Calls Try.prog 62 #[va, vb] w (GivesNat (a - b) w) := by
  have HA := Lib.hid ha
  have HB := Lib.hid hb
  obtain ⟨Aa, ca, rfl, la, la'⟩ := natLen_shape ha
  obtain ⟨Ab, cb, rfl, lb, lb'⟩ := natLen_shape hb
  clear ha hb
  have HBA := Lib.hid hba
  clear hba
  obtain ⟨i0, hi, hz0, hz1, hz2⟩ := info_parts info_u32
  go_enter Try.func62, Try.ntmps62
  go_wp2_with fail
  go_loopw [5, 6, 7] (fun v c i wr => ∃ k q : Nat, k ≤ Num.len a ∧ i = .int .i64 k ∧ c = .int .u64 q ∧ SubInv w wr a b k v q) (fun _ _ i _ => Num.len a - (intOf i).toNat)
  case atStart => exact ⟨0, 0, by omega, rfl, rfl, sub_start w a b⟩
  case round =>
    obtain ⟨i, q, hile, rfl, rfl, ds, hown, h2, h3, h4, h5, h6⟩ := hrel
    have H2 := Lib.hid h2
    have H3 := Lib.hid h3
    have H5 := Lib.hid h5
    have H6 := Lib.hid h6
    have HO := Lib.hid hown
    have hdl : ds.length ≤ 200000 := by omega
    have HIA : Hid (IsNat wr (.slice Aa (Num.len a) ca) a) := HA.out.later h6
    have HIB : Hid (IsNat wr (.slice Ab (Num.len b) cb) b) := HB.out.later h6
    clear h2 h3 h5
    have d1 := Num.dig_lt a i
    have d2 := Num.dig_lt b i
    by_cases hgo : i < Num.len a
    · go_wp2_with fail
      refine (digit_any _ a _ _ HIA.out (by omega) (by omega)).mono ?_
      rintro e w' ⟨rfl, rfl⟩
      rw [Int.toNat_natCast]
      go_wp2_with fail
      refine (digit_any _ b _ _ HIB.out (by omega) (by omega)).mono ?_
      rintro e w' ⟨rfl, rfl⟩
      rw [Int.toNat_natCast]
      obtain ⟨Q, hQe⟩ : ∃ Q, Q + Num.dig b i + q = 4294967296 + Num.dig a i := ⟨4294967296 + Num.dig a i - Num.dig b i - q, by omega⟩
      have hQ9 : Q < 8589934592 := by omega
      have hq1 : 4294967296 + (Num.dig a i : Int) - (Num.dig b i : Int) - (q : Int) = (Q : Int) := by omega
      have HQ := Lib.hid hQe
      clear hQe
      go_wp2_with (at_builtin; refine wpList_append_own _ rfl _ _ 29 rfl w.heap.size 62 i0 (.int .u32 0) 1 4 Try.underlying29 hi hz0 hz1 hz2 rfl (by decide) _ _ _ rfl (hown.alloc _) ⟨_, 0, none⟩ 1 1 [.int .u32 ((Q : Int) % 4294967296)] rfl rfl ?c1 ?c2 ?c3 ?c4 ?c5 ?_)
      case c1 => exact cell_one_new _ _ _
      case c2 => intro u hu; simp at hu; subst hu; rfl
      case c3 => unfold maxLen; omega
      case c4 => omega
      case c5 => have := H6.out.size; simp; omega
      intro v' w2 hown' hgrow _
      have e2 : ((Q : Int) % 4294967296) = ((Q % 4294967296 : Nat) : Int) := by simp
      rw [e2] at hown'
      have R := Lib.hid (sub_step HQ.out H2.out H3.out h4 H5.out H6.out hown' _ hgrow (fun k hk => (World.ownsRow.lt HO.out k hk).1))
      clear hown' hgrow e2 hown hq1
      go_wp2_with fail
      go_roundw
      case rel => exact ⟨i + 1, _, by omega, by go_num, by congr 1; omega, R.out⟩
      case measure => simp [intOf]; omega
    · obtain rfl : i = Num.len a := by omega
      obtain ⟨r1, r2⟩ := sub_end HBA.out H2.out H3.out h4 hown H5.out
      have R1 := Lib.hid r1
      have R2 := Lib.hid r2
      clear r1 r2 hown hgo
      go_wp2_with fail
      refine (trim_any _ _ _ R1.out H2.out).mono ?_
      rintro e w' ⟨rfl, v, rfl, hv⟩
      rw [R2.out] at hv
      have H := Lib.hid hv
      clear hv
      go_wp2_with fail
      go_ret
      exact GivesNat.mk H.out H6.out
end Go.Proofs.Ytfkhingkmfapbaa
