/- NatMul of the reference, by a contract: it returns the product, in memory of its own. Condition: the two numbers have at most 1000000 digits to the base 2^32 together. -/
import Derived.Test.YtfkhingkmfapbaaNatA
import Derived.Test.YtfkhingkmfapbaaNatMP
import Derived.Deep.LoopGhost
namespace Go.Proofs.Ytfkhingkmfapbaa
open Go.RowKit

theorem some_of_pos {w : World} {A : Option Addr} {n cap : Nat} (h : IsNat w (.slice A (Num.len n) cap) n) {i : Nat} (hi : i < Num.len n) : ∃ g, A = some ⟨g, 0, none⟩ ∧ g < w.heap.size := by
  rcases h.shape with ⟨h1, rfl⟩ | ⟨g, cap', h1, h2, _⟩
  · rw [Num.len_zero] at hi; omega
  · simp only [Value.slice.injEq] at h1
    exact ⟨g, h1.1, h2⟩
theorem cell_at {w : World} {g n cap : Nat} (h : IsNat w (.slice (some ⟨g, 0, none⟩) (Num.len n) cap) n) {i : Nat} (hi : i < Num.len n) : w.cell? ⟨g, i, none⟩ = some (.int .u32 (Num.dig n i : Int)) := Row.cell h rfl i hi

theorem mul_le {x y : Nat} (h1 : x < 4294967296) (h2 : y < 4294967296) : (x : Int) * (y : Int) ≤ 18446744065119617025 := by
  have : x * y ≤ 4294967295 * 4294967295 := Nat.mul_le_mul (by omega) (by omega)
  rw [← Int.natCast_mul]
  omega

set_option maxHeartbeats 1000000 in
theorem natMul_any (va vb : Value) (a b : Nat) (w : World) (ha : IsNat w va a) (hb : IsNat w vb b) (hl : Num.len a + Num.len b ≤ 1000000) : Calls Try.prog 38 #[va, vb] w (GivesNat (a * b) w) := by
  have HA := Lib.hid ha
  have HB := Lib.hid hb
  obtain ⟨Aa, ca, rfl, la, la'⟩ := natLen_shape ha
  obtain ⟨Ab, cb, rfl, lb, lb'⟩ := natLen_shape hb
  clear ha hb
  obtain ⟨i0, hi, hz0, hz1, hz2⟩ := info_parts info_u32
  go_enter Try.func38, Try.ntmps38
  go_wp2_with (at_make; refine wpList_make_full _ rfl _ _ 29 rfl w.heap.size 62 i0 (.int .u32 0) 1 Try.underlying29 hi hz0 hz1 _ _ _ _ (Num.len a + Num.len b) rfl rfl (by omega) (by omega) ?b2 ?b3 (Nat.le_refl _) ?_)
  case b2 => rw [hz2]; omega
  case b3 => unfold maxLen; omega
  intro w1 hown hgrow
  have hbel : Below w.heap.size w w1 := (Below.refl _ _).grown hgrow (Nat.le_refl _) (by intro k hk; cases hk)
  have HM := Lib.hid (mulOut_start (a := a) (b := b) hown hbel)
  clear hown hgrow hbel hi hz0 hz1 hz2
  go_wp2_with fail
  go_loopw [6] (fun i wr => ∃ k : Nat, k ≤ Num.len a ∧ i = .int .i64 k ∧ MulOut w wr w.heap.size (Num.len a + Num.len b) a b k) (fun i _ => Num.len a - (intOf i).toNat)
  case atStart => exact ⟨0, by omega, rfl, HM.out⟩
  case round =>
    obtain ⟨i, hi, rfl, hm⟩ := hrel
    have HI := Lib.hid hm
    clear hm
    by_cases hlt : i < Num.len a
    · obtain ⟨ga, rfl, hga⟩ := some_of_pos HA.out hlt
      go_wp2_with fail
      obtain ⟨wo, hwo⟩ : ∃ wo : World, wo = wr := ⟨_, rfl⟩
      subst hwo
      go_loopw [7, 8] (fun c k wr => ∃ m q : Nat, m ≤ Num.len b ∧ q < 4294967296 ∧ k = .int .i64 m ∧ c = .int .u64 q ∧ MulIn w wr w.heap.size (Num.len a + Num.len b) a b i m q) (fun _ k _ => Num.len b - (intOf k).toNat)
      case atStart => exact ⟨0, 0, by omega, by omega, rfl, rfl, mulIn_start HI.out⟩
      case round =>
        obtain ⟨m, q, hm, hq, rfl, rfl, hrel⟩ := hrel
        by_cases hlm : m < Num.len b
        · obtain ⟨gb, rfl, hgb⟩ := some_of_pos HB.out hlm
          obtain ⟨ds, c1, c2, c3, c4⟩ := mulIn_step hrel rfl (by omega) hlm
          have hbelow : Below w.heap.size w wr := by obtain ⟨_, _, _, _, _, _, h⟩ := hrel; exact h
          have cA : wr.cell? ⟨ga, i, none⟩ = some (.int .u32 (Num.dig a i : Int)) := (hbelow.cell (by exact hga)).trans (cell_at HA.out hlt)
          have cB : wr.cell? ⟨gb, m, none⟩ = some (.int .u32 (Num.dig b m : Int)) := (hbelow.cell (by exact hgb)).trans (cell_at HB.out hlm)
          have d1 := Num.dig_lt a i
          have d2 := Num.dig_lt b m
          have d3 : (Num.dig a i : Int) * (Num.dig b m : Int) ≤ 18446744065119617025 := mul_le d1 d2
          have d4 : 0 ≤ (Num.dig a i : Int) * (Num.dig b m : Int) := Int.mul_nonneg (by omega) (by omega)
          have H4 := Lib.hid c4
          clear c4 hrel hbelow
          go_wp2_with fail
          go_quiet (fail)
          go_wp2_with fail
          go_roundw
          case rel =>
            have d5 : Num.dig a i * Num.dig b m ≤ 18446744065119617025 := by rw [← Int.natCast_mul] at d3; omega
            have e1 : ((q : Int) + ((nth ds (i + m) : Int) + (Num.dig a i : Int) * (Num.dig b m : Int))) / 4294967296 = (((q + (nth ds (i + m) + Num.dig a i * Num.dig b m)) / 4294967296 : Nat) : Int) := by simp
            have e2 : ((q : Int) + ((nth ds (i + m) : Int) + (Num.dig a i : Int) * (Num.dig b m : Int))) % 4294967296 = (((q + (nth ds (i + m) + Num.dig a i * Num.dig b m)) % 4294967296 : Nat) : Int) := by simp
            refine ⟨m + 1, (q + (nth ds (i + m) + Num.dig a i * Num.dig b m)) / 4294967296, by omega, by omega, by go_num, by rw [e1], ?_⟩
            rw [e2]
            exact mulIn_drewN H4.out nq
          case measure => simp [intOf]; omega
        · obtain rfl : m = Num.len b := by omega
          obtain ⟨⟨u, e1⟩, e2, e3⟩ := mulIn_end hrel rfl (by omega) hq
          have H3 := Lib.hid e3
          clear e3 hrel
          go_wp2_with fail
          go_roundw
          case rel => exact ⟨i + 1, by omega, by go_num, H3.out⟩
          case measure => simp [intOf]; omega
    · obtain rfl : i = Num.len a := by omega
      obtain ⟨ds, r1, r2, r3, r4⟩ := mulOut_end HI.out
      have H1 := Lib.hid r1
      have H2 := Lib.hid r2
      have H3 := Lib.hid r3
      have H4 := Lib.hid r4
      clear r1 r2 r3 r4
      go_wp2_with fail
      refine (trim_any _ _ _ H1.out H2.out).mono ?_
      rintro e w' ⟨rfl, v, rfl, hv⟩
      rw [H3.out] at hv
      have H := Lib.hid hv
      clear hv
      go_wp2_with fail
      go_ret
      exact GivesNat.mk H.out H4.out
end Go.Proofs.Ytfkhingkmfapbaa
