/- formatBase10 of the package, the walk: it writes the digits of a number with zeros in front. Condition: the number has at most as many digits as there is room for, at most 60. -/
import Derived.Test.YtekicbnfabpaeaaFmtP
import Derived.Deep.DeepCutAuto
namespace Go.Proofs.Ytekicbnfabpaeaa
open Go.RowKit

theorem fmt_small {w wr : World} {g n u k m : Nat} (h : FmtInv w wr g n u k m) (hu : u < 10 ^ n) : m < 10 ^ k := by
  obtain ⟨L, h1, h2, h3, h4, h5, h6, h7⟩ := h
  rw [h5, Nat.div_lt_iff_lt_mul (Nat.pow_pos (by omega)), ← Nat.pow_add, show k + (n - k) = n from by omega]
  exact hu
theorem fmt_le {w wr : World} {g n u k m : Nat} (h : FmtInv w wr g n u k m) : k ≤ n ∧ m ≤ u := by
  obtain ⟨L, h1, h2, h3, h4, h5, h6, h7⟩ := h
  exact ⟨h4, by rw [h5]; exact Nat.div_le_self _ _⟩

set_option maxRecDepth 100000 in
set_option maxHeartbeats 4000000 in
theorem formatBase10_any (g n u : Nat) (L : List Nat) (w : World) (hL : L.length = n) (hB : Bytes L) (hb : Box w 5 g (byteCells L)) (hn : n ≤ 60) (hu : u < 10 ^ n) (hu64 : u < 18446744073709551616) :
    Calls Try.prog 60 #[.slice (some ⟨g, 0, none⟩) n n, .int .u64 u] w fun e w' => e = .returned (.tuple #[]) ∧ Box w' 5 g (byteCells (fmtL n u)) ∧ Only g w w' := by
  have H0 : Hid (FmtInv w w g n u n u) := ⟨L, hL, hB, hb, Nat.le_refl _, by simp, fun i h1 h2 => absurd h2 (by omega), Only.refl _ _⟩
  have HU := Lib.hid hu
  clear hL hB hb hu
  go_enter Try.func60, Try.ntmps60
  go_wp2_with fail
  go_loopw [1, 4] (fun v i wr => ∃ m k : Nat, v = .int .u64 m ∧ i = .int .i64 k ∧ Hid (FmtInv w wr g n u k m)) (fun _ i _ => (intOf i).toNat)
  case atStart => exact ⟨u, n, rfl, rfl, H0.out⟩
  case round =>
    obtain ⟨m, k, rfl, rfl, hI⟩ := hrel
    obtain ⟨hkn, hmu⟩ := fmt_le hI.out
    by_cases h8 : 8 ≤ k
    · have q : ∀ i, i < n → (∃ v, wr.cell? ⟨g, i, none⟩ = some (.int .u8 v)) ∧ wr.frozen? ⟨g, i, none⟩ = false := fmt_cell hI.out
      obtain ⟨⟨v1, c1⟩, f1⟩ := q (k - 1) (by omega)
      obtain ⟨⟨v2, c2⟩, f2⟩ := q (k - 2) (by omega)
      clear q
      go_wp2_with fail
      have e0 : (m : Int) % 100 * 2 = ((m % 100 * 2 : Nat) : Int) := by omega
      have e1 : (m : Int) % 10000 / 100 * 2 = ((m % 10000 / 100 * 2 : Nat) : Int) := by omega
      have e2 : (m : Int) % 100000000 / 10000 % 100 * 2 = ((m % 100000000 / 10000 % 100 * 2 : Nat) : Int) := by omega
      have e3 : (m : Int) % 100000000 / 10000 / 100 * 2 = ((m % 100000000 / 10000 / 100 * 2 : Nat) : Int) := by omega
      rw [e0, e1, e2, e3]
      obtain ⟨p0, hp0⟩ : ∃ p, p = m % 100 := ⟨_, rfl⟩
      obtain ⟨p1, hp1⟩ : ∃ p, p = m % 10000 / 100 := ⟨_, rfl⟩
      obtain ⟨p2, hp2⟩ : ∃ p, p = m % 100000000 / 10000 % 100 := ⟨_, rfl⟩
      obtain ⟨p3, hp3⟩ : ∃ p, p = m % 100000000 / 10000 / 100 := ⟨_, rfl⟩
      rw [← hp0, ← hp1, ← hp2, ← hp3]
      have b0 : p0 * 2 + 1 < 200 := by omega
      have b1 : p1 * 2 + 1 < 200 := by omega
      have b2 : p2 * 2 + 1 < 200 := by omega
      have b3 : p3 * 2 + 1 < 200 := by omega
      have HP0 := Lib.hid hp0
      have HP1 := Lib.hid (show p1 = m / 100 % 100 by omega)
      have HP2 := Lib.hid (show p2 = m / 100 / 100 % 100 by omega)
      have HP3 := Lib.hid (show p3 = m / 100 / 100 / 100 % 100 by omega)
      clear e0 e1 e2 e3 hp0 hp1 hp2 hp3
      have x0 := small_lit (p0 * 2) (by omega) ((p0 : Int) * 2) (by omega)
      have y0 := small_lit (p0 * 2 + 1) (by omega) ((p0 : Int) * 2 + 1) (by omega)
      have z0 : IntKind.u32.wrap ((p0 : Int) * 2 + 1) = (p0 : Int) * 2 + 1 := IntWalk.u32_in _ (by omega)
      have k1 : IntKind.i64.wrap ((k : Int) - 1) = (k : Int) - 1 := IntWalk.i64_in _ (by omega)
      have k2 : IntKind.i64.wrap ((k : Int) - 2) = (k : Int) - 2 := IntWalk.i64_in _ (by omega)
      have n1 : ((k : Int) - 1).toNat = k - 1 := by omega
      have n2 : ((k : Int) - 2).toNat = k - 2 := by omega
      go_region
      clear x0 y0 z0 k1 k2 n1 n2 c1 c2 f1 f2
      have I0 := Lib.hid (fmt_two (k - 1) (k - 2) p0 hI.out (by omega) (by omega) HP0.out)
      generalize ((wr.setCell ⟨g, k - 1, none⟩ (.int .u8 (smal (p0 * 2 + 1) : Int))).setCell ⟨g, k - 2, none⟩ (.int .u8 (smal (p0 * 2) : Int))).drew = W0 at *
      obtain ⟨⟨v3, c3⟩, f3⟩ := fmt_cell I0.out (k - 3) (by omega)
      obtain ⟨⟨v4, c4⟩, f4⟩ := fmt_cell I0.out (k - 4) (by omega)
      go_wp2_with fail
      have x1 := small_lit (p1 * 2) (by omega) ((p1 : Int) * 2) (by omega)
      have y1 := small_lit (p1 * 2 + 1) (by omega) ((p1 : Int) * 2 + 1) (by omega)
      have z1 : IntKind.u32.wrap ((p1 : Int) * 2 + 1) = (p1 : Int) * 2 + 1 := IntWalk.u32_in _ (by omega)
      have k3 : IntKind.i64.wrap ((k : Int) - 3) = (k : Int) - 3 := IntWalk.i64_in _ (by omega)
      have k4 : IntKind.i64.wrap ((k : Int) - 4) = (k : Int) - 4 := IntWalk.i64_in _ (by omega)
      have n3 : ((k : Int) - 3).toNat = k - 3 := by omega
      have n4 : ((k : Int) - 4).toNat = k - 4 := by omega
      go_region
      clear x1 y1 z1 k3 k4 n3 n4 c3 c4 f3 f4
      have I1 := Lib.hid (fmt_two (k - 3) (k - 4) p1 I0.out (by omega) (by omega) HP1.out)
      generalize ((W0.setCell ⟨g, k - 3, none⟩ (.int .u8 (smal (p1 * 2 + 1) : Int))).setCell ⟨g, k - 4, none⟩ (.int .u8 (smal (p1 * 2) : Int))).drew = W1 at *
      obtain ⟨⟨v5, c5⟩, f5⟩ := fmt_cell I1.out (k - 5) (by omega)
      obtain ⟨⟨v6, c6⟩, f6⟩ := fmt_cell I1.out (k - 6) (by omega)
      go_wp2_with fail
      have x2 := small_lit (p2 * 2) (by omega) ((p2 : Int) * 2) (by omega)
      have y2 := small_lit (p2 * 2 + 1) (by omega) ((p2 : Int) * 2 + 1) (by omega)
      have z2 : IntKind.u32.wrap ((p2 : Int) * 2 + 1) = (p2 : Int) * 2 + 1 := IntWalk.u32_in _ (by omega)
      have k5 : IntKind.i64.wrap ((k : Int) - 5) = (k : Int) - 5 := IntWalk.i64_in _ (by omega)
      have k6 : IntKind.i64.wrap ((k : Int) - 6) = (k : Int) - 6 := IntWalk.i64_in _ (by omega)
      have n5 : ((k : Int) - 5).toNat = k - 5 := by omega
      have n6 : ((k : Int) - 6).toNat = k - 6 := by omega
      go_region
      clear x2 y2 z2 k5 k6 n5 n6 c5 c6 f5 f6
      have I2 := Lib.hid (fmt_two (k - 5) (k - 6) p2 I1.out (by omega) (by omega) HP2.out)
      generalize ((W1.setCell ⟨g, k - 5, none⟩ (.int .u8 (smal (p2 * 2 + 1) : Int))).setCell ⟨g, k - 6, none⟩ (.int .u8 (smal (p2 * 2) : Int))).drew = W2 at *
      obtain ⟨⟨v7, c7⟩, f7⟩ := fmt_cell I2.out (k - 7) (by omega)
      obtain ⟨⟨v8, c8⟩, f8⟩ := fmt_cell I2.out (k - 8) (by omega)
      go_wp2_with fail
      have x3 := small_lit (p3 * 2) (by omega) ((p3 : Int) * 2) (by omega)
      have y3 := small_lit (p3 * 2 + 1) (by omega) ((p3 : Int) * 2 + 1) (by omega)
      have z3 : IntKind.u32.wrap ((p3 : Int) * 2 + 1) = (p3 : Int) * 2 + 1 := IntWalk.u32_in _ (by omega)
      have k7 : IntKind.i64.wrap ((k : Int) - 7) = (k : Int) - 7 := IntWalk.i64_in _ (by omega)
      have k8 : IntKind.i64.wrap ((k : Int) - 8) = (k : Int) - 8 := IntWalk.i64_in _ (by omega)
      have n7 : ((k : Int) - 7).toNat = k - 7 := by omega
      have n8 : ((k : Int) - 8).toNat = k - 8 := by omega
      go_region
      clear x3 y3 z3 k7 k8 n7 n8 c7 c8 f7 f8
      have I3 := Lib.hid (fmt_two (k - 7) (k - 8) p3 I2.out (by omega) (by omega) HP3.out)
      generalize ((W2.setCell ⟨g, k - 7, none⟩ (.int .u8 (smal (p3 * 2 + 1) : Int))).setCell ⟨g, k - 8, none⟩ (.int .u8 (smal (p3 * 2) : Int))).drew = W3 at *
      go_wp2_with fail
      go_roundw
      case rel => exact ⟨m / 100000000, k - 8, by go_num, by go_num, by
          have h := I3.out
          rw [show m / 100 / 100 / 100 / 100 = m / 100000000 from by omega] at h
          exact h⟩
      case measure => simp [intOf]; omega
    · have hm7 := fmt_small hI.out HU.out
      have hm8 : m < 10000000 := by
        have : 10 ^ k ≤ 10 ^ 7 := Nat.pow_le_pow_right (by omega) (by omega)
        omega
      clear hm7
      go_upto_if 99 with fail
      go_cut [4, 12] (fun s4 s12 wx => ∃ k m : Nat, k < 4 ∧ m < 10000000 ∧ s4 = .int .i64 k ∧ s12 = .int .u32 m ∧ Hid (FmtInv w wx g n u k m))
      case first =>
        by_cases h4 : 4 ≤ k
        · obtain ⟨⟨v1, c1⟩, f1⟩ := fmt_cell hI.out (k - 1) (by omega)
          obtain ⟨⟨v2, c2⟩, f2⟩ := fmt_cell hI.out (k - 2) (by omega)
          go_wp2_with fail
          have e0 : (m : Int) % 100 * 2 = ((m % 100 * 2 : Nat) : Int) := by omega
          have e1 : (m : Int) % 10000 / 100 * 2 = ((m % 10000 / 100 * 2 : Nat) : Int) := by omega
          rw [e0, e1]
          obtain ⟨p0, hp0⟩ : ∃ p, p = m % 100 := ⟨_, rfl⟩
          obtain ⟨p1, hp1⟩ : ∃ p, p = m % 10000 / 100 := ⟨_, rfl⟩
          rw [← hp0, ← hp1]
          have b0 : p0 * 2 + 1 < 200 := by omega
          have b1 : p1 * 2 + 1 < 200 := by omega
          have HP0 := Lib.hid hp0
          have HP1 := Lib.hid (show p1 = m / 100 % 100 by omega)
          clear e0 e1 hp0 hp1
          have x0 := small_lit (p0 * 2) (by omega) ((p0 : Int) * 2) (by omega)
          have y0 := small_lit (p0 * 2 + 1) (by omega) ((p0 : Int) * 2 + 1) (by omega)
          have z0 : IntKind.u32.wrap ((p0 : Int) * 2 + 1) = (p0 : Int) * 2 + 1 := IntWalk.u32_in _ (by omega)
          have k1 : IntKind.i64.wrap ((k : Int) - 1) = (k : Int) - 1 := IntWalk.i64_in _ (by omega)
          have k2 : IntKind.i64.wrap ((k : Int) - 2) = (k : Int) - 2 := IntWalk.i64_in _ (by omega)
          have n1 : ((k : Int) - 1).toNat = k - 1 := by omega
          have n2 : ((k : Int) - 2).toNat = k - 2 := by omega
          go_region
          clear x0 y0 z0 k1 k2 n1 n2 c1 c2 f1 f2
          have I0 := Lib.hid (fmt_two (k - 1) (k - 2) p0 hI.out (by omega) (by omega) HP0.out)
          generalize ((wr.setCell ⟨g, k - 1, none⟩ (.int .u8 (smal (p0 * 2 + 1) : Int))).setCell ⟨g, k - 2, none⟩ (.int .u8 (smal (p0 * 2) : Int))).drew = W0 at *
          obtain ⟨⟨v3, c3⟩, f3⟩ := fmt_cell I0.out (k - 3) (by omega)
          obtain ⟨⟨v4, c4⟩, f4⟩ := fmt_cell I0.out (k - 4) (by omega)
          go_wp2_with fail
          have x1 := small_lit (p1 * 2) (by omega) ((p1 : Int) * 2) (by omega)
          have y1 := small_lit (p1 * 2 + 1) (by omega) ((p1 : Int) * 2 + 1) (by omega)
          have z1 : IntKind.u32.wrap ((p1 : Int) * 2 + 1) = (p1 : Int) * 2 + 1 := IntWalk.u32_in _ (by omega)
          have k3 : IntKind.i64.wrap ((k : Int) - 3) = (k : Int) - 3 := IntWalk.i64_in _ (by omega)
          have k4 : IntKind.i64.wrap ((k : Int) - 4) = (k : Int) - 4 := IntWalk.i64_in _ (by omega)
          have n3 : ((k : Int) - 3).toNat = k - 3 := by omega
          have n4 : ((k : Int) - 4).toNat = k - 4 := by omega
          go_region
          clear x1 y1 z1 k3 k4 n3 n4 c3 c4 f3 f4
          have I1 := Lib.hid (fmt_two (k - 3) (k - 4) p1 I0.out (by omega) (by omega) HP1.out)
          generalize ((W0.setCell ⟨g, k - 3, none⟩ (.int .u8 (smal (p1 * 2 + 1) : Int))).setCell ⟨g, k - 4, none⟩ (.int .u8 (smal (p1 * 2) : Int))).drew = W1 at *
          go_wp2_with fail
          go_meet
          exact ⟨k - 4, m / 10000, by omega, by omega, by go_num, by go_num, by
            have h := I1.out
            rw [show m / 100 / 100 = m / 10000 from by omega] at h
            exact h⟩
        · go_wp2_with fail
          go_meet
          exact ⟨k, m, by omega, by omega, rfl, by go_num, hI.out⟩
      case rest =>
        obtain ⟨k, m, hk4, hm, rfl, rfl, hI⟩ := hcut
        have hkn := (fmt_le hI.out).1
        obtain ⟨wr, hwr⟩ : ∃ wr : World, wr = wc := ⟨_, rfl⟩
        subst hwr
        go_upto_if 139 with fail
        go_cut [4, 12] (fun s4 s12 wx => ∃ k m : Nat, k < 2 ∧ m < 10000000 ∧ s4 = .int .i64 k ∧ s12 = .int .u32 m ∧ Hid (FmtInv w wx g n u k m))
        case first =>
          by_cases h2 : 2 ≤ k
          · obtain ⟨⟨v1, c1⟩, f1⟩ := fmt_cell hI.out (k - 1) (by omega)
            obtain ⟨⟨v2, c2⟩, f2⟩ := fmt_cell hI.out (k - 2) (by omega)
            go_wp2_with fail
            have e0 : (m : Int) % 100 * 2 = ((m % 100 * 2 : Nat) : Int) := by omega
            rw [e0]
            obtain ⟨p0, hp0⟩ : ∃ p, p = m % 100 := ⟨_, rfl⟩
            rw [← hp0]
            have b0 : p0 * 2 + 1 < 200 := by omega
            have HP0 := Lib.hid hp0
            clear e0 hp0
            have x0 := small_lit (p0 * 2) (by omega) ((p0 : Int) * 2) (by omega)
            have y0 := small_lit (p0 * 2 + 1) (by omega) ((p0 : Int) * 2 + 1) (by omega)
            have z0 : IntKind.u32.wrap ((p0 : Int) * 2 + 1) = (p0 : Int) * 2 + 1 := IntWalk.u32_in _ (by omega)
            have k1 : IntKind.i64.wrap ((k : Int) - 1) = (k : Int) - 1 := IntWalk.i64_in _ (by omega)
            have k2 : IntKind.i64.wrap ((k : Int) - 2) = (k : Int) - 2 := IntWalk.i64_in _ (by omega)
            have n1 : ((k : Int) - 1).toNat = k - 1 := by omega
            have n2 : ((k : Int) - 2).toNat = k - 2 := by omega
            go_region
            clear x0 y0 z0 k1 k2 n1 n2 c1 c2 f1 f2
            have I0 := Lib.hid (fmt_two (k - 1) (k - 2) p0 hI.out (by omega) (by omega) HP0.out)
            generalize ((wr.setCell ⟨g, k - 1, none⟩ (.int .u8 (smal (p0 * 2 + 1) : Int))).setCell ⟨g, k - 2, none⟩ (.int .u8 (smal (p0 * 2) : Int))).drew = W0 at *
            go_wp2_with fail
            go_meet
            exact ⟨k - 2, m / 100, by omega, by omega, by go_num, by go_num, I0.out⟩
          · go_wp2_with fail
            go_meet
            exact ⟨k, m, by omega, by omega, rfl, rfl, hI.out⟩
        case rest =>
          obtain ⟨k, m, hk2, hm, rfl, rfl, hI⟩ := hcut
          by_cases h1 : k = 1
          · subst h1
            have hm10 := fmt_small hI.out HU.out
            obtain ⟨⟨v1, c1⟩, f1⟩ := fmt_cell hI.out 0 (by have := (fmt_le hI.out).1; omega)
            have hm9 : m < 10 := by simpa using hm10
            have hn1 : 1 ≤ n := (fmt_le hI.out).1
            have R := Lib.hid (fmt_put hI.out (by omega))
            clear hm10
            go_wp2_with fail
            go_end0
            have e : ((48 + m % 10 : Nat) : Int) = 48 + (m : Int) := by omega
            have h := R.out
            rw [e] at h
            obtain ⟨r1, r2⟩ := fmt_end h
            exact ⟨rfl, r1, r2⟩
          · obtain rfl : k = 0 := by omega
            go_wp2_with fail
            go_end0
            obtain ⟨r1, r2⟩ := fmt_end hI.out
            exact ⟨rfl, r1, r2⟩
end Go.Proofs.Ytekicbnfabpaeaa
