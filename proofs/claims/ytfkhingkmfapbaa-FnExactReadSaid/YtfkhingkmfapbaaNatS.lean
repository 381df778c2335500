/- NatShl of the reference, by a contract: it returns the number times a power of 2. Conditions: at most 100000 digits to the base 2^32, an exponent from 0 to 1000000. -/
import Derived.Test.YtfkhingkmfapbaaNatM
import Derived.Test.YtfkhingkmfapbaaNatSP
import Derived.Maps.AppendAt
namespace Go.Proofs.Ytfkhingkmfapbaa
open Go.RowKit

set_option maxHeartbeats 1000000 in
theorem natShl_any (va : Value) (a : Nat) (n : Int) (w : World) (ha : IsNat w va a) (hl : Num.len a ≤ 100000) (n0 : 0 ≤ n) (n1 : n ≤ 1000000) : Calls Try.prog 39 #[va, .int .i64 n] w (GivesNat (a * 2 ^ n.toNat) w) := by
  have HA := Lib.hid ha
  obtain ⟨n, rfl⟩ := Int.eq_ofNat_of_zero_le n0
  rw [Int.toNat_natCast]
  obtain ⟨Aa, ca, rfl, la, la'⟩ := natLen_shape ha
  clear ha
  obtain ⟨i0, hi, hz0, hz1, hz2⟩ := info_parts info_u32
  go_enter Try.func39, Try.ntmps39
  go_wp2_with (at_make; refine wpList_make_full _ rfl _ _ 29 rfl w.heap.size 62 i0 (.int .u32 0) 1 Try.underlying29 hi hz0 hz1 _ _ _ _ (n / 32) rfl rfl (by omega) (by omega) ?b2 ?b3 (Nat.le_refl _) ?_)
  case b2 => rw [hz2]; omega
  case b3 => unfold maxLen; omega
  intro w1 hown hgrow
  have hbel : Below w.heap.size w w1 := (Below.refl _ _).grown hgrow (Nat.le_refl _) (by intro k hk; cases hk)
  have HM := Lib.hid (shl_start (a := a) hown hbel)
  clear hown hgrow hbel
  go_wp2_with fail
  go_loopw [5, 6, 7] (fun v c i wr => ∃ k q : Nat, k ≤ Num.len a ∧ i = .int .i64 k ∧ c = .int .u64 q ∧ ShlInv w wr a n k v q) (fun _ _ i _ => Num.len a - (intOf i).toNat)
  case atStart => exact ⟨0, 0, by omega, rfl, rfl, HM.out⟩
  case round =>
    obtain ⟨i, q, hile, rfl, rfl, ds, hown, h2, h3, h4, h5, h6⟩ := hrel
    have H2 := Lib.hid h2
    have H3 := Lib.hid h3
    have H4 := Lib.hid h4
    have H5 := Lib.hid h5
    have hq32 : q < 4294967296 := Nat.lt_trans h4 (pow_small n)
    clear h2 h4 h5
    by_cases hlt : i < Num.len a
    · obtain ⟨ga, rfl, hga⟩ := some_of_pos HA.out hlt
      have cA : wr.cell? ⟨ga, i, none⟩ = some (.int .u32 (Num.dig a i : Int)) := (h6.cell (by exact hga)).trans (cell_at HA.out hlt)
      have d1 := Num.dig_lt a i
      obtain ⟨hor, hQ⟩ := shl_or a n i q H4.out
      have hdl : ds.length ≤ 200000 := by omega
      clear h3
      obtain ⟨Q, hQe⟩ : ∃ Q, Q = q + Num.dig a i * 2 ^ (n % 32) := ⟨_, rfl⟩
      rw [← hQe] at hor hQ
      have HQ := Lib.hid hQe
      clear hQe
      have HO := Lib.hid hown
      go_wp2_with (at_builtin; refine wpList_append_own _ rfl _ _ 29 rfl w.heap.size 62 i0 (.int .u32 0) 1 4 Try.underlying29 hi hz0 hz1 hz2 rfl (by decide) _ _ _ rfl (hown.alloc _) ⟨wr.heap.size, 0, none⟩ 1 1 [.int .u32 ((Q : Int) % 4294967296)] rfl rfl ?c1 ?c2 ?c3 ?c4 ?c5 ?_)
      case c1 => exact cell_one_new _ _ _
      case c2 => intro u hu; simp at hu; subst hu; rfl
      case c3 => unfold maxLen; omega
      case c4 => omega
      case c5 => have := h6.size; simp; omega
      intro v' w2 hown' hgrow _
      have e2 : ((Q : Int) % 4294967296) = ((Q % 4294967296 : Nat) : Int) := by simp
      rw [e2, HQ.out] at hown'
      have R := Lib.hid (shl_step H2.out H3.out H4.out H5.out h6 hown' _ hgrow (fun k hk => (World.ownsRow.lt HO.out k hk).1))
      clear hown' hgrow e2 hown cA hor
      go_wp2_with fail
      go_roundw
      case rel => exact ⟨i + 1, _, by omega, by go_num, by rw [← HQ.out]; simp, R.out⟩
      case measure => simp [intOf]; omega
    · obtain rfl : i = Num.len a := by omega
      have hdl : ds.length ≤ 200000 := by omega
      clear h3
      have HO := Lib.hid hown
      go_wp2_with (at_builtin; refine wpList_append_own _ rfl _ _ 29 rfl w.heap.size 62 i0 (.int .u32 0) 1 4 Try.underlying29 hi hz0 hz1 hz2 rfl (by decide) _ _ _ rfl (hown.alloc _) ⟨wr.heap.size, 0, none⟩ 1 1 [.int .u32 (q : Int)] rfl rfl ?d1 ?d2 ?d3 ?d4 ?d5 ?_)
      case d1 => exact cell_one_new _ _ _
      case d2 => intro u hu; simp at hu; subst hu; rfl
      case d3 => unfold maxLen; omega
      case d4 => omega
      case d5 => have := h6.size; simp; omega
      intro v' w2 hown' hgrow _
      obtain ⟨r1, r2, r3, r4⟩ := shl_end H2.out H3.out H4.out H5.out h6 hown' _ hgrow (fun k hk => (World.ownsRow.lt HO.out k hk).1)
      have R1 := Lib.hid r1
      have R2 := Lib.hid r2
      have R3 := Lib.hid r3
      have R4 := Lib.hid r4
      clear r1 r2 r3 r4 hown' hgrow hown
      go_wp2_with fail
      refine (trim_any _ _ _ R1.out R2.out).mono ?_
      rintro e w' ⟨rfl, v, rfl, hv⟩
      rw [R3.out] at hv
      have H := Lib.hid hv
      clear hv
      go_wp2_with fail
      go_ret
      exact GivesNat.mk H.out R4.out
end Go.Proofs.Ytfkhingkmfapbaa
