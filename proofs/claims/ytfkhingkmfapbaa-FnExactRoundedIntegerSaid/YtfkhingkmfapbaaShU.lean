/- shouldRoundUp and Round of the package's decimals, by contracts. -/
import Derived.Test.YtfkhingkmfapbaaRDec
namespace Go.Proofs.Ytfkhingkmfapbaa
open Go.RowKit

/-- is a decimal of n digits raised where it is cut behind k digits? -/
def shU (D : List Nat) (n k : Nat) (tr : Bool) : Bool :=
  if n ≤ k then false else if nth D k = 53 ∧ k + 1 = n then tr || (decide (0 < k) && decide (nth D (k - 1) % 2 = 1)) else decide (53 ≤ nth D k)

theorem ret_bool {a b : Bool} (h : a = b) : Ending.returned (.bool a) = .returned (.bool b) := by rw [h]
theorem odd_digit {c : Nat} (_h : 48 ≤ c ∧ c ≤ 57) : (((c : Int) - 48) % 2 != 0) = decide (c % 2 = 1) := by
  by_cases e : c % 2 = 1
  · rw [decide_eq_true e]; simp; omega
  · rw [decide_eq_false e]; simp; omega
set_option maxHeartbeats 1000000 in
set_option maxRecDepth 100000 in
theorem shU_neg (b : Nat) (k : Int) (w : World) (hk : k < 0) :
    Calls Try.prog 73 #[.pointer (some ⟨b, 0, none⟩), .int .i64 k] w fun e w' => e = .returned (.bool false) ∧ w = w' := by
  go_enter Try.func73, Try.ntmps73
  go_wp2_with fail
  go_ret
  exact ⟨rfl, rfl⟩
set_option maxHeartbeats 1000000 in
set_option maxRecDepth 100000 in
theorem shU_any (b : Nat) (D : List Nat) (n k : Nat) (dp : Int) (neg tr : Bool) (w : World) (h : DecBox w b D n dp neg tr) (hn : n ≤ 800) (hd : ∀ i, i < n → 48 ≤ nth D i ∧ nth D i ≤ 57) :
    Calls Try.prog 73 #[.pointer (some ⟨b, 0, none⟩), .int .i64 k] w fun e w' => e = .returned (.bool (shU D n k tr)) ∧ w = w' := by
  have c0 := h.nd_
  by_cases hk : n ≤ k
  · have E : Hid (shU D n k tr = false) := by show _ = _; unfold shU; rw [if_pos hk]
    clear h hd
    go_enter Try.func73, Try.ntmps73
    go_wp2_with fail
    go_ret
    exact ⟨ret_bool E.out.symm, rfl⟩
  · have hk1 : (0 : Int) ≤ (k : Int) := by omega
    have hk2 : (k : Int) < 800 := by omega
    have g0 := h.at_ (i := k) (by omega)
    have hdk := hd k (by omega)
    have ct := h.tr_
    have HD := Lib.hid hd
    clear hd
    by_cases h5 : nth D k = 53 ∧ k + 1 = n
    · obtain ⟨h5, hn1⟩ := h5
      have t1 : ((nth D k : Int) == 53) = true := by rw [h5]; rfl
      have t2 : ((k : Int) + 1 == (n : Int)) = true := by simp; omega
      have E : Hid (shU D n k tr = (tr || (decide (0 < k) && decide (nth D (k - 1) % 2 = 1)))) := by show _ = _; unfold shU; rw [if_neg hk, if_pos ⟨h5, hn1⟩]
      cases tr
      · by_cases hz : k = 0
        · subst hz
          clear h h5 hn1
          go_enter Try.func73, Try.ntmps73
          go_wp2_with fail
          go_ret
          exact ⟨ret_bool E.out.symm, rfl⟩
        · have hk3 : 0 < k := by omega
          have hk4 : (1 : Int) ≤ (k : Int) := by omega
          have g1 := h.at_ (i := k - 1) (by omega)
          have hd1 := HD.out (k - 1) (by omega)
          clear h h5 hn1
          go_enter Try.func73, Try.ntmps73
          go_wp2_with fail
          go_ret
          exact ⟨ret_bool (a := ((nth D (k - 1) : Int) - 48) % 2 != 0) (by rw [E.out, decide_eq_true hk3, Bool.true_and, Bool.false_or, odd_digit hd1]), rfl⟩
      · clear h h5 hn1
        go_enter Try.func73, Try.ntmps73
        go_wp2_with fail
        go_ret
        exact ⟨ret_bool E.out.symm, rfl⟩
    · have E : Hid (shU D n k tr = decide (53 ≤ nth D k)) := by show _ = _; unfold shU; rw [if_neg hk, if_neg h5]
      by_cases h6 : nth D k = 53
      · have t1 : ((nth D k : Int) == 53) = true := by rw [h6]; rfl
        have t2 : ((k : Int) + 1 == (n : Int)) = false := by simp; omega
        have E2 : Hid (decide (53 ≤ nth D k) = true) := by show _ = _; rw [h6]; rfl
        have t3 : (53 : Int) ≤ (nth D k : Int) := by omega
        clear h h5 h6
        go_enter Try.func73, Try.ntmps73
        go_wp2_with fail
        go_ret
        exact ⟨ret_bool (E.out.trans E2.out).symm, rfl⟩
      · have t1 : ((nth D k : Int) == 53) = false := by simp; omega
        clear h h5 h6
        by_cases h7 : 53 ≤ nth D k
        · have t3 : (53 : Int) ≤ (nth D k : Int) := by omega
          have E2 : Hid (decide (53 ≤ nth D k) = true) := by show _ = _; rw [decide_eq_true h7]
          clear h7
          go_enter Try.func73, Try.ntmps73
          go_wp2_with fail
          go_ret
          exact ⟨ret_bool (E.out.trans E2.out).symm, rfl⟩
        · have t3 : ¬ (53 : Int) ≤ (nth D k : Int) := by omega
          have E2 : Hid (decide (53 ≤ nth D k) = false) := by show _ = _; rw [decide_eq_false h7]
          clear h7
          go_enter Try.func73, Try.ntmps73
          go_wp2_with fail
          go_ret
          exact ⟨ret_bool (E.out.trans E2.out).symm, rfl⟩

/-- behind Round: raised or cut -/
def rrD (l : List Nat) (k : Nat) (tr : Bool) : List Nat := if shU (padL l) l.length k tr then rupD l k else padL l
def rrN (l : List Nat) (k : Nat) (tr : Bool) : Nat := if shU (padL l) l.length k tr then rupN l k else dnN l k
def rrP (l : List Nat) (k : Nat) (tr : Bool) (p : Int) : Int := if shU (padL l) l.length k tr then rupP l k p else dnP l k p
theorem rrN_le (l : List Nat) (k : Nat) (tr : Bool) (h : l.length ≤ 800) : rrN l k tr ≤ 800 := by
  unfold rrN
  split
  · exact rupN_le l k h
  · exact dnN_le l k h
set_option maxHeartbeats 1000000 in
set_option maxRecDepth 100000 in
theorem round_all (l : List Nat) (k : Nat) (p : Int) (neg tr : Bool) (b : Nat) (w : World) (h : DecBox w b (padL l) l.length p neg tr) (hl : l.length ≤ 800) (hd : Digs l) (p1 : -100000 ≤ p) (p2 : p ≤ 100000) :
    Calls Try.prog 60 #[.pointer (some ⟨b, 0, none⟩), .int .i64 k] w (Makes b (rrD l k tr) (rrN l k tr : Nat) (rrP l k tr p) neg tr w) := by
  have c0 := h.nd_
  have H := Lib.hid h
  have hds : ∀ i, i < l.length → 48 ≤ nth (padL l) i ∧ nth (padL l) i ≤ 57 := fun i hi => by
    have e : nth (padL l) i = l[i] := by simp [nth, padL, List.getD_eq_getElem?_getD, List.getElem?_append_left hi, hi]
    rw [e]; exact hd _ (List.getElem_mem hi)
  have HD := Lib.hid hds
  clear h hd hds
  by_cases hk : l.length ≤ k
  · have E : Hid (shU (padL l) l.length k tr = false) := by show _ = _; unfold shU; rw [if_pos hk]
    have E1 : Hid (dnN l k = l.length) := by show _ = _; unfold dnN; rw [if_pos hk]
    have E2 : Hid (dnP l k p = p) := by show _ = _; unfold dnP; rw [if_pos hk]
    go_enter Try.func60, Try.ntmps60
    go_wp2_with fail
    go_end0
    refine ⟨rfl, ?_, Only.refl _ _⟩
    unfold rrD rrN rrP
    rw [E.out]
    simp only [Bool.false_eq_true, if_false]
    rw [E1.out, E2.out]
    exact H.out
  · rcases Bool.eq_false_or_eq_true (shU (padL l) l.length k tr) with hs | hs
    · have E1 : Hid (rrD l k tr = rupD l k) := by show _ = _; unfold rrD; rw [hs]; rfl
      have E2 : Hid (rrN l k tr = rupN l k) := by show _ = _; unfold rrN; rw [hs]; rfl
      have E3 : Hid (rrP l k tr p = rupP l k p) := by show _ = _; unfold rrP; rw [hs]; rfl
      have ES := Lib.hid hs
      clear hs
      go_enter Try.func60, Try.ntmps60
      go_wp2_with fail
      refine (shU_any b _ _ k _ _ _ _ H.out hl HD.out).mono ?_
      rintro e w1 ⟨rfl, rfl⟩
      rw [ES.out]
      go_wp2_with fail
      refine (up_all l k p neg tr b _ H.out hl p1 p2).mono ?_
      rintro e w2 ⟨rfl, hm, ho⟩
      have HM := Lib.hid hm
      have HO := Lib.hid ho
      clear hm ho
      go_wp2_with fail
      go_end0
      refine ⟨rfl, ?_, HO.out⟩
      rw [E1.out, E2.out, E3.out]
      exact HM.out
    · have E1 : Hid (rrD l k tr = padL l) := by show _ = _; unfold rrD; rw [hs]; rfl
      have E2 : Hid (rrN l k tr = dnN l k) := by show _ = _; unfold rrN; rw [hs]; rfl
      have E3 : Hid (rrP l k tr p = dnP l k p) := by show _ = _; unfold rrP; rw [hs]; rfl
      have ES := Lib.hid hs
      clear hs
      go_enter Try.func60, Try.ntmps60
      go_wp2_with fail
      refine (shU_any b _ _ k _ _ _ _ H.out hl HD.out).mono ?_
      rintro e w1 ⟨rfl, rfl⟩
      rw [ES.out]
      go_wp2_with fail
      refine (down_all l k p neg tr b _ H.out hl).mono ?_
      rintro e w2 ⟨rfl, hm, ho⟩
      have HM := Lib.hid hm
      have HO := Lib.hid ho
      clear hm ho
      go_wp2_with fail
      go_end0
      refine ⟨rfl, ?_, HO.out⟩
      rw [E1.out, E2.out, E3.out]
      exact HM.out
end Go.Proofs.Ytfkhingkmfapbaa
