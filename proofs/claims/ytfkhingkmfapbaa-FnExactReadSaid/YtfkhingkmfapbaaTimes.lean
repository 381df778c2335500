/- Times and Cmp of the reference, by contracts: a number times powers of 2 and of 10 as a ratio, and the comparison of two ratios. Conditions: at most 1000 digits to the base 2^32, exponents from -5000 to 5000. -/
import Derived.Test.YtfkhingkmfapbaaNatP
import Derived.Deep.RegionHeld3
import Derived.Deep.DeepCutAuto
import Derived.Deep.RegionWith
namespace Go.Proofs.Ytfkhingkmfapbaa
open Go.RowKit

theorem undrew {B : Nat} {w w' : World} (h : Below B w.drew w') : Below B w w' := ⟨h.os, h.tape, h.output, h.size, h.block⟩

/-- a call hands back the ratio num by den -/
def GivesRatio (num den : Nat) (w : World) (e : Ending) (w' : World) : Prop := ∃ vn vd, e = .returned (.agg #[vn, vd]) ∧ IsNat w' vn num ∧ IsNat w' vd den ∧ Below w.heap.size w w'

/-- the two boxes of Times: b0 the result's, b1 the ratio's own -/
def TB (w wx : World) (b0 b1 num den : Nat) : Prop :=
  ∃ x0 x1 vn vd, Box wx 31 b0 #[x0, x1] ∧ Box wx 31 b1 #[vn, vd] ∧ b0 ≠ b1 ∧ w.heap.size ≤ b0 ∧ w.heap.size ≤ b1 ∧ IsNat wx vn num ∧ IsNat wx vd den ∧ Below w.heap.size w wx
theorem TB.num {w wx w' : World} {b0 b1 num den n : Nat} {v : Value} (h : TB w wx b0 b1 num den) (hb : Below wx.heap.size wx w') (hv : IsNat w' v n) : TB w (w'.setCell ⟨b1, 0, none⟩ v) b0 b1 n den := by
  obtain ⟨x0, x1, vn, vd, h0, h1, h2, h3, h4, h5, h6, h7⟩ := h
  have k0 := h0.later hb h0.lt
  have k1 := h1.later hb h1.lt
  refine ⟨x0, x1, v, vd, k0.far (p := ⟨b1, 0, none⟩) h2 v, ?_, h2, h3, h4, hv.far k1 (by decide) 0 v, (h6.later hb).far k1 (by decide) 0 v, (h7.trans (hb.mono h7.size)).setCell (by exact h4) v⟩
  have := k1.set 0 v
  simpa using this
theorem TB.den {w wx w' : World} {b0 b1 num den n : Nat} {v : Value} (h : TB w wx b0 b1 num den) (hb : Below wx.heap.size wx w') (hv : IsNat w' v n) : TB w (w'.setCell ⟨b1, 1, none⟩ v) b0 b1 num n := by
  obtain ⟨x0, x1, vn, vd, h0, h1, h2, h3, h4, h5, h6, h7⟩ := h
  have k0 := h0.later hb h0.lt
  have k1 := h1.later hb h1.lt
  refine ⟨x0, x1, vn, v, k0.far (p := ⟨b1, 1, none⟩) h2 v, ?_, h2, h3, h4, (h5.later hb).far k1 (by decide) 1 v, hv.far k1 (by decide) 1 v, (h7.trans (hb.mono h7.size)).setCell (by exact h4) v⟩
  have := k1.set 1 v
  simpa using this

set_option maxHeartbeats 1000000 in
theorem times_any (v : Value) (m : Nat) (e p : Int) (w : World) (hm : IsNat w v m) (hl : Num.len m ≤ 1000) (e0 : -5000 ≤ e) (e1 : e ≤ 5000) (p0 : -5000 ≤ p) (p1 : p ≤ 5000) :
    Calls Try.prog 23 #[v, .int .i64 e, .int .i64 p] w (GivesRatio (m * 2 ^ e.toNat * 10 ^ p.toNat) (2 ^ (-e).toNat * 10 ^ (-p).toNat) w) := by
  have HM := Lib.hid hm
  obtain ⟨A0, c0, rfl, _, _⟩ := natLen_shape hm
  clear hm
  go_enter Try.func23, Try.ntmps23
  go_wp2_with fail
  refine (one_any _).mono ?_
  rintro e' w1 ⟨v1, rfl, hv1, hb1⟩
  obtain ⟨A1, c1, rfl, _, _⟩ := natLen_shape hv1
  have hT : TB w (w1.alloc (.cells #[.slice A0 (Num.len m) c0, .slice A1 (Num.len 1) c1] 31)) w.heap.size w1.heap.size m 1 := by
    have hs := hb1.size
    simp at hs
    refine ⟨_, _, _, _, ((Box.new w 31 _).later hb1 (by simp)).alloc _, Box.new _ _ _, by omega, by omega, by omega, ((HM.out.alloc _).later hb1).alloc _, hv1.alloc _, ?_⟩
    exact (((Below.refl _ _).alloc (Nat.le_refl _) _).trans (hb1.mono (by simp))).alloc (by omega) _
  have HT := Lib.hid hT
  clear hT hv1 hb1
  go_upto_if 12 with fail
  generalize w1.alloc (.cells #[.slice A0 (Num.len m) c0, .slice A1 (Num.len 1) c1] 31) = W at *
  generalize w1.heap.size = b1 at *
  have L0 : Num.len (m * 2 ^ e.toNat) ≤ 2000 := by have := Num.len_shl m e.toNat; omega
  have L1 : Num.len (2 ^ (-e).toNat) ≤ 2000 := by have := Num.len_shl 1 (-e).toNat; rw [Nat.one_mul] at this; have h1 : Num.len 1 = 1 := Num.len_small (by decide) (by decide); omega
  have L2 : Num.len (10 ^ p.toNat) ≤ 2000 := by have := Num.len_pow10 p.toNat; omega
  have L3 : Num.len (10 ^ (-p).toNat) ≤ 2000 := by have := Num.len_pow10 (-p).toNat; omega
  have L4 : Num.len 1 ≤ 2000 := by have h1 : Num.len 1 = 1 := Num.len_small (by decide) (by decide); omega
  have HL0 := Lib.hid L0
  have HL1 := Lib.hid L1
  have HL2 := Lib.hid L2
  have HL3 := Lib.hid L3
  have HL4 := Lib.hid L4
  clear L0 L1 L2 L3 L4
  go_cut [] (fun wx => TB w wx w.heap.size b1 (m * 2 ^ e.toNat) 1)
  case first =>
    by_cases he : 0 < e
    · obtain ⟨x0, x1, vn, vd, k0, k1, _, _, _, k5, _, _⟩ := HT.out
      have H5 := Lib.hid k5
      have K1 := Lib.hid k1
      have hc0 : W.cell? ⟨b1, 0, none⟩ = some vn := by rw [k1.cell 0]; rfl
      clear k0 k1 k5
      go_wp2_with fail
      refine (natShl_any _ m e _ H5.out (by omega) (by omega) (by omega)).mono ?_
      rintro e' w2 ⟨v2, rfl, hv2, hb2⟩
      obtain ⟨A2, c2, rfl, _, _⟩ := natLen_shape hv2
      have hc1 : w2.cell? ⟨b1, 0, none⟩ = some vn := by rw [(K1.out.later hb2 K1.out.lt).cell 0]; rfl
      have hf1 : w2.frozen? ⟨b1, 0, none⟩ = false := (K1.out.later hb2 K1.out.lt).frozen 0
      have R := Lib.hid (HT.out.num hb2 hv2)
      clear hc0 hv2 hb2
      go_wp2_with fail
      go_meet
      exact R.out
    · have en : e.toNat = 0 := by omega
      have EN := Lib.hid en
      clear en
      go_wp2_with fail
      go_meet
      rw [EN.out, Nat.pow_zero, Nat.mul_one]
      exact HT.out
  case rest =>
    go_upto_if 19 with fail
    have HC := Lib.hid hcut
    clear hcut HT
    obtain ⟨W2, hW2⟩ : ∃ W2 : World, W2 = wc := ⟨_, rfl⟩
    subst hW2
    go_cut [] (fun wx => TB w wx w.heap.size b1 (m * 2 ^ e.toNat) (2 ^ (-e).toNat))
    case first =>
      by_cases he : e < 0
      · obtain ⟨x0, x1, vn, vd, k0, k1, _, _, _, _, k6, _⟩ := HC.out
        have H6 := Lib.hid k6
        have K1 := Lib.hid k1
        have hc0 : W2.cell? ⟨b1, 1, none⟩ = some vd := by rw [k1.cell 1]; rfl
        clear k0 k1 k6
        go_wp2_with fail
        refine (natShl_any _ 1 (-e) _ H6.out (by have := HL4.out; omega) (by omega) (by omega)).mono ?_
        rintro e' w2 ⟨v2, rfl, hv2, hb2⟩
        rw [Nat.one_mul] at hv2
        obtain ⟨A2, c2, rfl, _, _⟩ := natLen_shape hv2
        have hc1 : w2.cell? ⟨b1, 1, none⟩ = some vd := by rw [(K1.out.later hb2 K1.out.lt).cell 1]; rfl
        have hf1 : w2.frozen? ⟨b1, 1, none⟩ = false := (K1.out.later hb2 K1.out.lt).frozen 1
        have R := Lib.hid (HC.out.den hb2 hv2)
        clear hc0 hv2 hb2
        go_wp2_with fail
        go_meet
        exact R.out
      · have en : (-e).toNat = 0 := by omega
        have EN := Lib.hid en
        clear en
        go_wp2_with fail
        go_meet
        rw [EN.out, Nat.pow_zero]
        exact HC.out
    case rest =>
      go_upto_if 27 with fail
      have HC := Lib.hid hcut
      clear hcut
      obtain ⟨W3, hW3⟩ : ∃ W3 : World, W3 = wc := ⟨_, rfl⟩
      subst hW3
      go_cut [] (fun wx => TB w wx w.heap.size b1 (m * 2 ^ e.toNat * 10 ^ p.toNat) (2 ^ (-e).toNat))
      case first =>
        by_cases hp : 0 < p
        · obtain ⟨x0, x1, vn, vd, k0, k1, _, _, _, k5, _, _⟩ := HC.out
          have H5 := Lib.hid k5
          have K1 := Lib.hid k1
          have hc0 : W3.cell? ⟨b1, 0, none⟩ = some vn := by rw [k1.cell 0]; rfl
          clear k0 k1 k5
          go_wp2_with fail
          go_region_with
            (first
              | (go_at_call 40; refine (pow10_any _ _ (by omega)).mono ?_; rintro e' w4 ⟨v4, rfl, hv4, hb4'⟩; have hb4 := undrew hb4'; have hc4 : w4.cell? ⟨b1, 0, none⟩ = some vn := (hb4.cell (by exact K1.out.lt)).trans hc0)
              | (go_at_call 38; refine (natMul_any _ _ (m * 2 ^ e.toNat) (10 ^ p.toNat) _ (H5.out.later hb4) hv4 (by have h1 := HL0.out; have h2 := HL2.out; omega)).mono ?_; rintro e' w5 ⟨v5, rfl, hv5, hb5⟩; obtain ⟨A5, c5, rfl, _, _⟩ := natLen_shape hv5; have hb6 := hb4.trans (hb5.mono hb4.size); have hc5 : w5.cell? ⟨b1, 0, none⟩ = some vn := (hb6.cell (by exact K1.out.lt)).trans hc0; have hf5 : w5.frozen? ⟨b1, 0, none⟩ = false := (K1.out.later hb6 K1.out.lt).frozen 0))
          all_goals
            have R := Lib.hid (HC.out.num hb6 hv5)
            clear hc0 hc4 hc5 hf5 hb4 hb5 hb6 hv4 hv5
            go_wp2_with fail
            go_meet
            exact R.out
        · have en : p.toNat = 0 := by omega
          have EN := Lib.hid en
          clear en
          go_wp2_with fail
          go_meet
          rw [EN.out, Nat.pow_zero, Nat.mul_one]
          exact HC.out
      case rest =>
        go_upto_if 35 with fail
        have HC := Lib.hid hcut
        clear hcut
        obtain ⟨W4, hW4⟩ : ∃ W4 : World, W4 = wc := ⟨_, rfl⟩
        subst hW4
        go_cut [] (fun wx => TB w wx w.heap.size b1 (m * 2 ^ e.toNat * 10 ^ p.toNat) (2 ^ (-e).toNat * 10 ^ (-p).toNat))
        case first =>
          by_cases hp : p < 0
          · obtain ⟨x0, x1, vn, vd, k0, k1, _, _, _, _, k6, _⟩ := HC.out
            have H6 := Lib.hid k6
            have K1 := Lib.hid k1
            have hc0 : W4.cell? ⟨b1, 1, none⟩ = some vd := by rw [k1.cell 1]; rfl
            clear k0 k1 k6
            have hwp : IntKind.i64.wrap (-p) = -p := IntWalk.i64_in _ (by omega)
            have hq : -p ≤ 100000 := by omega
            go_wp2_with fail
            go_region_with
              (first
                | (go_at_call 40; refine (pow10_any _ _ (by assumption)).mono ?_; rintro e' w4 ⟨v4, rfl, hv4, hb4'⟩; have hb4 := undrew hb4'; have hc4 : w4.cell? ⟨b1, 1, none⟩ = some vd := (hb4.cell (by exact K1.out.lt)).trans hc0)
                | (go_at_call 38; refine (natMul_any _ _ (2 ^ (-e).toNat) (10 ^ (-p).toNat) _ (H6.out.later hb4) hv4 (by have h1 := HL1.out; have h2 := HL3.out; omega)).mono ?_; rintro e' w5 ⟨v5, rfl, hv5, hb5⟩; obtain ⟨A5, c5, rfl, _, _⟩ := natLen_shape hv5; have hb6 := hb4.trans (hb5.mono hb4.size); have hc5 : w5.cell? ⟨b1, 1, none⟩ = some vd := (hb6.cell (by exact K1.out.lt)).trans hc0; have hf5 : w5.frozen? ⟨b1, 1, none⟩ = false := (K1.out.later hb6 K1.out.lt).frozen 1))
            all_goals
              have R := Lib.hid (HC.out.den hb6 hv5)
              clear hwp hc0 hc4 hc5 hf5 hb4 hb5 hb6 hv4 hv5
              go_wp2_with fail
              go_meet
              exact R.out
          · have en : (-p).toNat = 0 := by omega
            have EN := Lib.hid en
            clear en
            go_wp2_with fail
            go_meet
            rw [EN.out, Nat.pow_zero, Nat.mul_one]
            exact HC.out
        case rest =>
          obtain ⟨x0, x1, vn, vd, k0, k1, k2, k3, k4, k5, k6, k7⟩ := hcut
          obtain ⟨An, cn, rfl, _, _⟩ := natLen_shape k5
          obtain ⟨Ad, cd, rfl, _, _⟩ := natLen_shape k6
          have H5 := Lib.hid k5
          have H6 := Lib.hid k6
          have H7 := Lib.hid k7
          have K0 := Lib.hid k0
          have a0 : wc.cell? ⟨w.heap.size, 0, none⟩ = some x0 := by rw [k0.cell 0]; rfl
          have a1 : wc.cell? ⟨w.heap.size, 1, none⟩ = some x1 := by rw [k0.cell 1]; rfl
          have f0 : wc.frozen? ⟨w.heap.size, 0, none⟩ = false := k0.frozen 0
          have f1 : wc.frozen? ⟨w.heap.size, 1, none⟩ = false := k0.frozen 1
          have c0' : wc.cell? ⟨b1, 0, none⟩ = some (.slice An (Num.len (m * 2 ^ e.toNat * 10 ^ p.toNat)) cn) := by rw [k1.cell 0]; rfl
          have c1' : wc.cell? ⟨b1, 1, none⟩ = some (.slice Ad (Num.len (2 ^ (-e).toNat * 10 ^ (-p).toNat)) cd) := by rw [k1.cell 1]; rfl
          clear k0 k1 k5 k6 k7
          go_wp2_with fail
          have q0 : (wc.setCell ⟨w.heap.size, 0, none⟩ (.slice An (Num.len (m * 2 ^ e.toNat * 10 ^ p.toNat)) cn)).cell? ⟨w.heap.size, 0, none⟩ = some (.slice An (Num.len (m * 2 ^ e.toNat * 10 ^ p.toNat)) cn) := by rw [(K0.out.set 0 _).cell 0]; rfl
          have q1 : ((wc.setCell ⟨w.heap.size, 0, none⟩ (.slice An (Num.len (m * 2 ^ e.toNat * 10 ^ p.toNat)) cn)).setCell ⟨w.heap.size, 1, none⟩ (.slice Ad (Num.len (2 ^ (-e).toNat * 10 ^ (-p).toNat)) cd)).cell? ⟨w.heap.size, 1, none⟩ = some (.slice Ad (Num.len (2 ^ (-e).toNat * 10 ^ (-p).toNat)) cd) := by rw [((K0.out.set 0 _).set 1 _).cell 1]; rfl
          refine bodyPost_ret (v := .agg #[.slice An (Num.len (m * 2 ^ e.toNat * 10 ^ p.toNat)) cn, .slice Ad (Num.len (2 ^ (-e).toNat * 10 ^ (-p).toNat)) cd]) (by simp [results, Try.results23, go_sem, q0, q1]) rfl ⟨_, _, rfl, ?_, ?_, ?_⟩
          · exact (H5.out.far K0.out (by decide) 0 _).far (K0.out.set 0 _) (by decide) 1 _
          · exact (H6.out.far K0.out (by decide) 0 _).far (K0.out.set 0 _) (by decide) 1 _
          · exact (H7.out.setCell (by exact Nat.le_refl _) _).setCell (by exact Nat.le_refl _) _

end Go.Proofs.Ytfkhingkmfapbaa
