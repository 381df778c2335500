/- shouldRoundUp of the package's decimals, by a contract. Written by gen_c.py. -/
import Derived.Test.YtfndpecffhempaaDoorVD
namespace Go.Proofs.YtfndpecffhempaaDoor
open Go.RowKit

/-- is a decimal of n digits raised where it is cut behind k digits? -/
def shU (D : List Nat) (n k : Nat) (tr : Bool) : Bool :=
  if n ≤ k then false else if nth D k = 53 ∧ k + 1 = n then tr || (decide (0 < k) && decide (nth D (k - 1) % 2 = 1)) else decide (53 ≤ nth D k)

theorem ret_bool {a b : Bool} (h : a = b) : Ending.returned (.bool a) = .returned (.bool b) := by rw [h]
theorem odd_digit {c : Nat} (_h : 48 ≤ c ∧ c ≤ 57) : (((c : Int) - 48) % 2 != 0) = decide (c % 2 = 1) := by
  by_cases e : c % 2 = 1
  · rw [decide_eq_true e]; simp; omega
  · rw [decide_eq_false e]; simp; omega
set_option maxHeartbeats 1000000 in
set_option maxRecDepth 100000 in
theorem shU_neg (b : Nat) (k : Int) (w : World) (hk : k < 0) :
    Calls Tryd.prog 66 #[.pointer (some ⟨b, 0, none⟩), .int .i64 k] w fun e w' => e = .returned (.bool false) ∧ w = w' := by
  go_enter Tryd.func66, Tryd.ntmps66
  go_wp2_with fail
  go_ret
  exact ⟨rfl, rfl⟩
set_option maxHeartbeats 1000000 in
set_option maxRecDepth 100000 in
theorem shU_any (b : Nat) (D : List Nat) (n k : Nat) (dp : Int) (neg tr : Bool) (w : World) (h : DecBox w b D n dp neg tr) (hn : n ≤ 800) (hd : ∀ i, i < n → 48 ≤ nth D i ∧ nth D i ≤ 57) :
    Calls Tryd.prog 66 #[.pointer (some ⟨b, 0, none⟩), .int .i64 k] w fun e w' => e = .returned (.bool (shU D n k tr)) ∧ w = w' := by
  have c0 := h.nd_
  by_cases hk : n ≤ k
  · have E : Hid (shU D n k tr = false) := by show _ = _; unfold shU; rw [if_pos hk]
    clear h hd
    go_enter Tryd.func66, Tryd.ntmps66
    go_wp2_with fail
    go_ret
    exact ⟨ret_bool E.out.symm, rfl⟩
  · have hk1 : (0 : Int) ≤ (k : Int) := by omega
    have hk2 : (k : Int) < 800 := by omega
    have g0 := h.at_ (i := k) (by omega)
    have hdk := hd k (by omega)
    have ct := h.tr_
    have HD := Lib.hid hd
    clear hd
    by_cases h5 : nth D k = 53 ∧ k + 1 = n
    · obtain ⟨h5, hn1⟩ := h5
      have t1 : ((nth D k : Int) == 53) = true := by rw [h5]; rfl
      have t2 : ((k : Int) + 1 == (n : Int)) = true := by simp; omega
      have E : Hid (shU D n k tr = (tr || (decide (0 < k) && decide (nth D (k - 1) % 2 = 1)))) := by show _ = _; unfold shU; rw [if_neg hk, if_pos ⟨h5, hn1⟩]
      cases tr
      · by_cases hz : k = 0
        · subst hz
          clear h h5 hn1
          go_enter Tryd.func66, Tryd.ntmps66
          go_wp2_with fail
          go_ret
          exact ⟨ret_bool E.out.symm, rfl⟩
        · have hk3 : 0 < k := by omega
          have hk4 : (1 : Int) ≤ (k : Int) := by omega
          have g1 := h.at_ (i := k - 1) (by omega)
          have hd1 := HD.out (k - 1) (by omega)
          clear h h5 hn1
          go_enter Tryd.func66, Tryd.ntmps66
          go_wp2_with fail
          go_ret
          exact ⟨ret_bool (a := ((nth D (k - 1) : Int) - 48) % 2 != 0) (by rw [E.out, decide_eq_true hk3, Bool.true_and, Bool.false_or, odd_digit hd1]), rfl⟩
      · clear h h5 hn1
        go_enter Tryd.func66, Tryd.ntmps66
        go_wp2_with fail
        go_ret
        exact ⟨ret_bool E.out.symm, rfl⟩
    · have E : Hid (shU D n k tr = decide (53 ≤ nth D k)) := by show _ = _; unfold shU; rw [if_neg hk, if_neg h5]
      by_cases h6 : nth D k = 53
      · have t1 : ((nth D k : Int) == 53) = true := by rw [h6]; rfl
        have t2 : ((k : Int) + 1 == (n : Int)) = false := by simp; omega
        have E2 : Hid (decide (53 ≤ nth D k) = true) := by show _ = _; rw [h6]; rfl
        have t3 : (53 : Int) ≤ (nth D k : Int) := by omega
        clear h h5 h6
        go_enter Tryd.func66, Tryd.ntmps66
        go_wp2_with fail
        go_ret
        exact ⟨ret_bool (E.out.trans E2.out).symm, rfl⟩
      · have t1 : ((nth D k : Int) == 53) = false := by simp; omega
        clear h h5 h6
        by_cases h7 : 53 ≤ nth D k
        · have t3 : (53 : Int) ≤ (nth D k : Int) := by omega
          have E2 : Hid (decide (53 ≤ nth D k) = true) := by show _ = _; rw [decide_eq_true h7]
          clear h7
          go_enter Tryd.func66, Tryd.ntmps66
          go_wp2_with fail
          go_ret
          exact ⟨ret_bool (E.out.trans E2.out).symm, rfl⟩
        · have t3 : ¬ (53 : Int) ≤ (nth D k : Int) := by omega
          have E2 : Hid (decide (53 ≤ nth D k) = false) := by show _ = _; rw [decide_eq_false h7]
          clear h7
          go_enter Tryd.func66, Tryd.ntmps66
          go_wp2_with fail
          go_ret
          exact ⟨ret_bool (E.out.trans E2.out).symm, rfl⟩

end Go.Proofs.YtfndpecffhempaaDoor
