/- trim of the package's decimals, by a contract: zeros behind the digits go. -/
import Derived.Test.YtfkhingkmfapbaaDecP
namespace Go.Proofs.Ytfkhingkmfapbaa
open Go.RowKit

/-- how many digits are left without zeros behind -/
def cut0 (D : List Nat) : Nat → Nat
  | 0 => 0
  | k + 1 => if nth D k = 48 then cut0 D k else k + 1
theorem cut0_le (D : List Nat) (k : Nat) : cut0 D k ≤ k := by
  induction k with
  | zero => exact Nat.le_refl _
  | succ k ih => rw [cut0]; split <;> omega
theorem cut0_hit {D : List Nat} {k : Nat} (h0 : k ≠ 0) (h : nth D (k - 1) = 48) : cut0 D k = cut0 D (k - 1) := by
  obtain ⟨m, rfl⟩ := Nat.exists_eq_succ_of_ne_zero h0
  simp only [Nat.succ_eq_add_one, Nat.add_sub_cancel] at h ⊢
  rw [cut0, if_pos h]
theorem cut0_miss {D : List Nat} {k : Nat} (h0 : k ≠ 0) (h : nth D (k - 1) ≠ 48) : cut0 D k = k := by
  obtain ⟨m, rfl⟩ := Nat.exists_eq_succ_of_ne_zero h0
  simp only [Nat.succ_eq_add_one, Nat.add_sub_cancel] at h ⊢
  rw [cut0, if_neg h]

/-- the point of a number of n digits: none where there are none -/
def dpz (n : Nat) (dp : Int) : Int := if n = 0 then 0 else dp
theorem dpz_zero (dp : Int) : dpz 0 dp = 0 := rfl
theorem dpz_pos {n : Nat} (h : n ≠ 0) (dp : Int) : dpz n dp = dp := if_neg h

set_option maxHeartbeats 1000000 in
theorem trimD_any (b : Nat) (D : List Nat) (n : Nat) (dp : Int) (neg tr : Bool) (w : World) (h : DecBox w b D n dp neg tr) (hn : n ≤ 800) :
    Calls Try.prog 72 #[.pointer (some ⟨b, 0, none⟩)] w (Makes b D (cut0 D n) (dpz (cut0 D n) dp) neg tr w) := by
  have H := Lib.hid h
  clear h
  go_enter Try.func72, Try.ntmps72
  go_wp2_with fail
  go_loopw [2] (fun _ wr => ∃ k : Nat, k ≤ n ∧ Hid (DecBox wr b D k dp neg tr) ∧ Hid (cut0 D k = cut0 D n) ∧ Hid (Only b w wr)) (fun _ wr => ndAt b wr)
  case atStart => exact ⟨n, Nat.le_refl _, H.out, rfl, Only.refl _ _⟩
  case round =>
    obtain ⟨k, hk, hd, hc, ho⟩ := hrel
    have c0 := hd.out.nd_
    have f0 := hd.out.free 800
    by_cases h0 : k = 0
    · subst h0
      have HC := Lib.hid (show cut0 D n = 0 from hc.out.symm)
      have c1 := hd.out.dp_
      have f1 := hd.out.free 801
      have ht : decide ((0 : Int) < ((0 : Nat) : Int)) = false := rfl
      have R := Lib.hid (hd.out.drewN 1)
      go_wp2_with fail
      go_quiet (fail)
      go_wp2_with fail
      go_end0
      refine ⟨rfl, ?_, (ho.out.drewN nq).setCell _ _⟩
      rw [HC.out, dpz_zero]
      exact (hd.out.drewN nq).setDp 0
    · have hkp : 0 < k := by omega
      have c1 := hd.out.at_ (i := k - 1) (by omega)
      have hb1 := nth_byte hd.out.2.1 (k - 1)
      by_cases h48 : nth D (k - 1) = 48
      · have ht : ((nth D (k - 1) : Int) == 48) = true := by rw [h48]; rfl
        have H48 := Lib.hid h48
        clear h48
        go_wp2_with fail
        go_quiet (fail)
        go_wp2_with fail
        go_roundw
        case rel => exact ⟨k - 1, by omega, by
            have := (hd.out.drewN nq).setNd ((k : Int) - 1)
            rw [show ((k - 1 : Nat) : Int) = (k : Int) - 1 from by omega]
            exact this, (cut0_hit h0 H48.out).symm.trans hc.out, (ho.out.drewN nq).setCell _ _⟩
        case measure => rw [(((hd.out.drewN nq).setNd ((k : Int) - 1))).ndAt, hd.out.ndAt]; omega
      · have ht : ((nth D (k - 1) : Int) == 48) = false := by simp; omega
        have H48 := Lib.hid h48
        have HN := Lib.hid ((cut0_miss h0 h48).symm.trans hc.out)
        have hk0 : ((k : Int) == 0) = false := by simp; omega
        clear h48
        go_wp2_with fail
        go_quiet (fail)
        go_wp2_with fail
        go_end0
        refine ⟨rfl, ?_, ho.out.drewN nq⟩
        rw [← HN.out, dpz_pos (by omega)]
        exact hd.out.drewN nq
end Go.Proofs.Ytfkhingkmfapbaa
