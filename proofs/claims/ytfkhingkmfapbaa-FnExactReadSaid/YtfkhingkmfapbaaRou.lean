/- RoundDown, RoundUp of the package's decimals, by contracts. -/
import Derived.Test.YtfkhingkmfapbaaFrom
import Derived.Test.YtfkhingkmfapbaaDecA
namespace Go.Proofs.Ytfkhingkmfapbaa
open Go.RowKit

set_option maxHeartbeats 1000000 in
set_option maxRecDepth 100000 in
theorem roundDown_same (b : Nat) (D : List Nat) (n k : Nat) (dp : Int) (neg tr : Bool) (w : World) (h : DecBox w b D n dp neg tr) (hk : n ≤ k) :
    Calls Try.prog 57 #[.pointer (some ⟨b, 0, none⟩), .int .i64 k] w (Makes b D n dp neg tr w) := by
  have H := Lib.hid h
  have c0 := h.nd_
  clear h
  go_enter Try.func57, Try.ntmps57
  go_wp2_with fail
  go_end0
  exact ⟨rfl, H.out, Only.refl _ _⟩
set_option maxHeartbeats 1000000 in
set_option maxRecDepth 100000 in
theorem roundDown_cut (b : Nat) (D : List Nat) (n k : Nat) (dp : Int) (neg tr : Bool) (w : World) (h : DecBox w b D n dp neg tr) (hn : n ≤ 800) (hk : k < n) :
    Calls Try.prog 57 #[.pointer (some ⟨b, 0, none⟩), .int .i64 k] w (Makes b D (cut0 D k) (dpz (cut0 D k) dp) neg tr w) := by
  have H := Lib.hid h
  have c0 := h.nd_
  have f0 := h.free 800
  have H2 := Lib.hid (h.setNd (k : Int))
  have O2 := Lib.hid ((Only.refl b w).setCell 800 (.int .i64 (k : Int)))
  clear h
  go_enter Try.func57, Try.ntmps57
  go_wp2_with fail
  refine (trimD_any _ D k _ _ _ _ H2.out (by omega)).mono ?_
  rintro e w2 ⟨rfl, hm, ho⟩
  have HM := Lib.hid hm
  have HO := Lib.hid (O2.out.trans ho)
  clear hm ho
  go_wp2_with fail
  go_end0
  exact ⟨rfl, HM.out, HO.out⟩

/-- one behind the last digit below 9 among the first k; 0: there is none -/
def up9 (D : List Nat) : Nat → Nat
  | 0 => 0
  | k + 1 => if nth D k < 57 then k + 1 else up9 D k
theorem up9_hit {D : List Nat} {i : Nat} (h : nth D i < 57) : up9 D (i + 1) = i + 1 := by rw [up9, if_pos h]
theorem up9_miss {D : List Nat} {i : Nat} (h : ¬ nth D i < 57) : up9 D (i + 1) = up9 D i := by rw [up9, if_neg h]
theorem up9_le (D : List Nat) (k : Nat) : up9 D k ≤ k := by
  induction k with
  | zero => exact Nat.le_refl _
  | succ k ih => rw [up9]; split <;> omega
/-- the digits, their number and the point behind RoundUp to k digits -/
def upD (D : List Nat) (j : Nat) : List Nat := if j = 0 then D.set 0 49 else D.set (j - 1) (nth D (j - 1) + 1)
def upN (j : Nat) : Nat := if j = 0 then 1 else j
def upP (j : Nat) (dp : Int) : Int := if j = 0 then dp + 1 else dp

set_option maxHeartbeats 1000000 in
set_option maxRecDepth 100000 in
theorem roundUp_same (b : Nat) (D : List Nat) (n k : Nat) (dp : Int) (neg tr : Bool) (w : World) (h : DecBox w b D n dp neg tr) (hk : n ≤ k) :
    Calls Try.prog 59 #[.pointer (some ⟨b, 0, none⟩), .int .i64 k] w (Makes b D n dp neg tr w) := by
  have H := Lib.hid h
  have c0 := h.nd_
  clear h
  go_enter Try.func59, Try.ntmps59
  go_wp2_with fail
  go_end0
  exact ⟨rfl, H.out, Only.refl _ _⟩
set_option maxHeartbeats 2000000 in
set_option maxRecDepth 100000 in
theorem roundUp_cut (b : Nat) (D : List Nat) (n k : Nat) (dp : Int) (neg tr : Bool) (w : World) (h : DecBox w b D n dp neg tr) (hn : n ≤ 800) (hk : k < n) (p1 : -100000 ≤ dp) (p2 : dp ≤ 100000) :
    Calls Try.prog 59 #[.pointer (some ⟨b, 0, none⟩), .int .i64 k] w (Makes b (upD D (up9 D k)) (upN (up9 D k) : Nat) (upP (up9 D k) dp) neg tr w) := by
  have H := Lib.hid h
  have c0 := h.nd_
  have f0 := h.free 800
  clear h
  go_enter Try.func59, Try.ntmps59
  go_wp2_with fail
  go_loop [4] (fun i => ∃ j : Nat, j ≤ k ∧ i = .int .i64 ((j : Int) - 1) ∧ Hid (up9 D j = up9 D k)) (fun i => (intOf i + 1).toNat)
  case atStart => exact ⟨k, Nat.le_refl _, rfl, rfl⟩
  case round =>
    obtain ⟨j, hj, rfl, hu⟩ := hrel
    by_cases h0 : j = 0
    · subst h0
      have HU := Lib.hid (show up9 D k = 0 from hu.out.symm)
      have c1 := H.out.dp_
      have f1 := H.out.free 801
      have g0 := H.out.at_ (i := 0) (by decide)
      have e0 := H.out.free 0
      have d1 := H.out.set (i := 0) (c := 49) (by decide) (by decide)
      have k0 := d1.nd_
      have k1 := d1.free 800
      have d2 := d1.setNd 1
      have k2 := d2.dp_
      have k3 := d2.free 801
      have d3 := d2.setDp (dp + 1)
      have HD3 := Lib.hid d3
      have HO3 := Lib.hid ((((Only.refl b w).setCell 0 (.int .u8 ((49 : Nat) : Int))).setCell 800 (.int .i64 1)).setCell 801 (.int .i64 (dp + 1)))
      clear d1 d2 d3
      go_wp2_with fail
      go_end0
      refine ⟨rfl, ?_, HO3.out⟩
      rw [HU.out]
      exact HD3.out
    · obtain ⟨i, rfl⟩ : ∃ i, j = i + 1 := ⟨j - 1, by omega⟩
      have g0 := H.out.at_ (i := i) (by omega)
      have e0 := H.out.free i
      have ei : ((i + 1 : Nat) : Int) - 1 = (i : Int) := by omega
      rw [ei]
      by_cases h9 : nth D i < 57
      · have HU := Lib.hid (show up9 D k = i + 1 by rw [← hu.out, up9_hit h9])
        have h9' : (nth D i : Int) < 57 := by omega
        have d1 := H.out.set (i := i) (c := nth D i + 1) (by omega) (by omega)
        have k0 := d1.nd_
        have k1 := d1.free 800
        have d2 := d1.setNd ((i : Int) + 1)
        have HD2 := Lib.hid d2
        have HO2 := Lib.hid (((Only.refl b w).setCell i (.int .u8 ((nth D i + 1 : Nat) : Int))).setCell 800 (.int .i64 ((i : Int) + 1)))
        have hw8 : IntKind.u8.wrap ((nth D i : Int) + 1) = ((nth D i + 1 : Nat) : Int) := by rw [IntWalk.u8_in _ (by omega)]; omega
        clear d1 d2
        go_upto_region 6 with fail
        go_region
        go_wp2_with fail
        go_end0
        refine ⟨rfl, ?_, HO2.out.drew⟩
        rw [HU.out]
        exact HD2.out.drew
      · have h9' : ¬ (nth D i : Int) < 57 := by omega
        have HM := Lib.hid (show up9 D i = up9 D k by rw [← hu.out, up9_miss h9])
        clear h9
        go_wp2_with fail
        go_round
        case rel => exact ⟨i, by omega, by go_num, HM.out⟩
        case measure => simp [intOf]
end Go.Proofs.Ytfkhingkmfapbaa
