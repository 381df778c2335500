/- Shift of the package's decimals, by a contract. -/
import Derived.Test.YtfndpecffhempaaDoorRSh
namespace Go.Proofs.YtfndpecffhempaaDoor
open Go.RowKit

/-- a method of a decimal: it returns nothing, and leaves what Q says of digits, point and mark in its block -/
def Leaves (b : Nat) (neg : Bool) (Q : List Nat → Int → Bool → Prop) (w : World) (e : Ending) (w' : World) : Prop :=
  e = .returned (.tuple #[]) ∧ ∃ D l' dp' tr', Q l' dp' tr' ∧ DecBox w' b D ((l' : List Nat).length : Nat) dp' neg tr' ∧ D.take l'.length = l' ∧ Only b w w'
def ShSt (b : Nat) (neg : Bool) (Q : List Nat → Int → Bool → Prop) (w w' : World) : Prop :=
  ∃ D l' dp' tr', Q l' dp' tr' ∧ DecBox w' b D ((l' : List Nat).length : Nat) dp' neg tr' ∧ D.take l'.length = l' ∧ Only b w w'
theorem sum_rep (j k : Nat) : (List.replicate j 60 ++ [k]).sum = 60 * j + k := by simp; omega
theorem rep_mem {j k x : Nat} (h0 : 1 ≤ k) (h : k ≤ 60) (hx : x ∈ List.replicate j 60 ++ [k]) : 1 ≤ x ∧ x ≤ 60 := by
  rcases List.mem_append.1 hx with h1 | h1
  · have := (List.mem_replicate.1 h1).2; omega
  · simp at h1; omega
theorem rep_succ (j : Nat) : List.replicate (j + 1) 60 = List.replicate j 60 ++ [60] := List.replicate_succ'
theorem shK_left {l l' l1 : List Nat} {dp dp' dp1 : Int} {tr tr' tr1 : Bool} {j k K : Nat} (h0 : l.length ≠ 0) (hk : 1 ≤ k) (hk2 : k ≤ 60) (hK : K = 60 * j + k) (h1 : ShC true (List.replicate j 60) l dp tr l1 dp1 tr1) (h2 : ShP l1 dp1 tr1 (2 ^ k) 1 l' dp' tr') : ShK l dp tr (K : Int) l' dp' tr' := by
  refine .inr ⟨h0, by omega, List.replicate j 60 ++ [k], fun x hx => rep_mem hk hk2 hx, by rw [sum_rep]; omega, by simp; omega, ?_⟩
  rw [decide_eq_true (show (0 : Int) < (K : Int) by omega)]
  exact h1.snoc h2
theorem shK_right {l l' l1 : List Nat} {dp dp' dp1 : Int} {tr tr' tr1 : Bool} {j k K : Nat} (h0 : l.length ≠ 0) (hk : 1 ≤ k) (hk2 : k ≤ 60) (hK : K = 60 * j + k) (h1 : ShC false (List.replicate j 60) l dp tr l1 dp1 tr1) (h2 : ShP l1 dp1 tr1 1 (2 ^ k) l' dp' tr') : ShK l dp tr (-(K : Int)) l' dp' tr' := by
  refine .inr ⟨h0, by omega, List.replicate j 60 ++ [k], fun x hx => rep_mem hk hk2 hx, by rw [sum_rep]; omega, by simp; omega, ?_⟩
  rw [decide_eq_false (show ¬ (0 : Int) < -(K : Int) by omega)]
  exact h1.snoc h2

set_option maxHeartbeats 1000000 in
set_option maxRecDepth 100000 in
theorem shift_any (b B : Nat) (D : List Nat) (l : List Nat) (dp K : Int) (neg tr : Bool) (w : World) (h : DecBox w b D (l.length : Nat) dp neg tr) (ht : D.take l.length = l) (hl : l.length ≤ 800) (hL : l.length ≠ 0 → Lead l) (hT : Cheat w B) (hB : B ≤ b) (p0 : -2600 ≤ dp) (p1 : dp ≤ 2600) (k0 : -1140 ≤ K) (k1 : K ≤ 1140) :
    Calls Tryd.prog 45 #[.pointer (some ⟨b, 0, none⟩), .int .i64 K] w (Leaves b neg (ShK l dp tr K) w) := by
  have H := Lib.hid h
  have HT := Lib.hid ht
  have c0 := h.nd_
  have HC := Lib.hid hT
  have HL := Lib.hid hL
  clear h ht hT hL
  by_cases h0 : l.length = 0
  · have t0 : ((l.length : Int) == 0) = true := by rw [h0]; rfl
    have H0 := Lib.hid h0
    clear h0
    go_enter Tryd.func45, Tryd.ntmps45
    go_wp2_with fail
    go_end0
    exact ⟨rfl, D, l, dp, tr, .inl ⟨.inl H0.out, rfl, rfl, rfl⟩, H.out, HT.out, Only.refl _ _⟩
  · have t0 : ((l.length : Int) == 0) = false := by simp; intro hh; exact h0 (by rw [hh]; rfl)
    have HN0 := Lib.hid h0
    have HLd := Lib.hid (HL.out h0)
    clear h0
    rcases Int.lt_trichotomy K 0 with hK | hK | hK
    · obtain ⟨Kn, rfl⟩ : ∃ Kn : Nat, K = -(Kn : Int) := ⟨K.natAbs, by omega⟩
      have hK' : ¬ (0 : Int) < -(Kn : Int) := by omega
      go_enter Tryd.func45, Tryd.ntmps45
      go_wp2_with fail
      go_loopw [1] (fun k wr => ∃ j m : Nat, k = .int .i64 (-(m : Int)) ∧ 1 ≤ m ∧ m + 60 * j = Kn ∧ Hid (ShSt b neg (ShC false (List.replicate j 60) l dp tr) w wr)) (fun k _ => (-(intOf k)).toNat)
      case atStart => exact ⟨0, Kn, rfl, by omega, by omega, D, l, dp, tr, ⟨rfl, rfl, rfl⟩, H.out, HT.out, Only.refl _ _⟩
      case round =>
        obtain ⟨j, m, rfl, hm1, hm2, hst⟩ := hrel
        obtain ⟨D2, l2, dp2, tr2, hc2, hd2, ht2, ho2⟩ := hst.out
        obtain ⟨g1, g2, g3, g4⟩ := hc2.lead HLd.out hl
        rw [List.length_replicate] at g3 g4
        have HL2 := Lib.hid g1
        have HC2 := Lib.hid hc2
        have HD2 := Lib.hid hd2
        have HT2 := Lib.hid ht2
        have HO2 := Lib.hid ho2
        clear hst hc2 hd2 ht2 ho2 g1
        by_cases hm : 60 < m
        · go_wp2_with fail
          refine (rightShift_any b D2 l2 dp2 neg tr2 60 _ HD2.out HT2.out g2 HL2.out (by omega) (by omega) (by omega) (by omega)).mono ?_
          rintro e w2 ⟨rfl, D3, l3, dp3, tr3, hp3, hd3, ht3, ho3⟩
          have HQ := Lib.hid (show ShSt b neg (ShC false (List.replicate (j + 1) 60) l dp tr) w w2 from ⟨D3, l3, dp3, tr3, by rw [rep_succ]; exact HC2.out.snoc hp3, hd3, ht3, HO2.out.trans ho3⟩)
          clear hp3 hd3 ht3 ho3
          go_wp2_with fail
          go_roundw
          case rel => exact ⟨j + 1, m - 60, by go_num, by omega, by omega, HQ.out⟩
          case measure => simp [intOf]; omega
        · go_wp2_with fail
          refine (rightShift_any b D2 l2 dp2 neg tr2 m _ HD2.out HT2.out g2 HL2.out (by omega) (by omega) (by omega) (by omega)).mono ?_
          rintro e w2 ⟨rfl, D3, l3, dp3, tr3, hp3, hd3, ht3, ho3⟩
          have HQ := Lib.hid (show ShSt b neg (ShK l dp tr (-(Kn : Int))) w w2 from ⟨D3, l3, dp3, tr3, shK_right HN0.out hm1 (by omega) (by omega) HC2.out hp3, hd3, ht3, HO2.out.trans ho3⟩)
          clear hp3 hd3 ht3 ho3
          go_wp2_with fail
          go_end0
          exact ⟨rfl, HQ.out⟩
    · subst hK
      go_enter Tryd.func45, Tryd.ntmps45
      go_wp2_with fail
      go_end0
      exact ⟨rfl, D, l, dp, tr, .inl ⟨.inr rfl, rfl, rfl, rfl⟩, H.out, HT.out, Only.refl _ _⟩
    · obtain ⟨Kn, rfl⟩ : ∃ Kn : Nat, K = (Kn : Int) := ⟨K.natAbs, by omega⟩
      have hK2 : 0 < Kn := by omega
      have hK3 : decide (0 < Kn) = true := decide_eq_true hK2
      go_enter Tryd.func45, Tryd.ntmps45
      go_wp2_with fail
      go_loopw [1] (fun k wr => ∃ j m : Nat, k = .int .i64 (m : Int) ∧ 1 ≤ m ∧ m + 60 * j = Kn ∧ Hid (ShSt b neg (ShC true (List.replicate j 60) l dp tr) w wr)) (fun k _ => (intOf k).toNat)
      case atStart => exact ⟨0, Kn, rfl, by omega, by omega, D, l, dp, tr, ⟨rfl, rfl, rfl⟩, H.out, HT.out, Only.refl _ _⟩
      case round =>
        obtain ⟨j, m, rfl, hm1, hm2, hst⟩ := hrel
        obtain ⟨D2, l2, dp2, tr2, hc2, hd2, ht2, ho2⟩ := hst.out
        obtain ⟨g1, g2, g3, g4⟩ := hc2.lead HLd.out hl
        rw [List.length_replicate] at g3 g4
        have HL2 := Lib.hid g1
        have HC2 := Lib.hid hc2
        have HD2 := Lib.hid hd2
        have HT2 := Lib.hid ht2
        have HCh := Lib.hid (HC.out.only ho2 hB)
        have HO2 := Lib.hid ho2
        clear hst hc2 hd2 ht2 ho2 g1
        by_cases hm : 60 < m
        · go_wp2_with fail
          refine (leftShift_any b B D2 l2 dp2 neg tr2 60 _ HD2.out HT2.out g2 HL2.out (by omega) (by omega) HCh.out (by omega) (by omega)).mono ?_
          rintro e w2 ⟨rfl, D3, l3, dp3, tr3, hp3, hd3, ht3, ho3⟩
          have HQ := Lib.hid (show ShSt b neg (ShC true (List.replicate (j + 1) 60) l dp tr) w w2 from ⟨D3, l3, dp3, tr3, by rw [rep_succ]; exact HC2.out.snoc hp3, hd3, ht3, HO2.out.trans ho3⟩)
          clear hp3 hd3 ht3 ho3
          go_wp2_with fail
          go_roundw
          case rel => exact ⟨j + 1, m - 60, by go_num, by omega, by omega, HQ.out⟩
          case measure => simp [intOf]; omega
        · go_wp2_with fail
          refine (leftShift_any b B D2 l2 dp2 neg tr2 m _ HD2.out HT2.out g2 HL2.out (by omega) (by omega) HCh.out (by omega) (by omega)).mono ?_
          rintro e w2 ⟨rfl, D3, l3, dp3, tr3, hp3, hd3, ht3, ho3⟩
          have HQ := Lib.hid (show ShSt b neg (ShK l dp tr (Kn : Int)) w w2 from ⟨D3, l3, dp3, tr3, shK_left HN0.out hm1 (by omega) (by omega) HC2.out hp3, hd3, ht3, HO2.out.trans ho3⟩)
          clear hp3 hd3 ht3 ho3
          go_wp2_with fail
          go_end0
          exact ⟨rfl, HQ.out⟩
end Go.Proofs.YtfndpecffhempaaDoor
