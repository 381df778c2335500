/- The walks of the laws on unrounded numbers: FnExactUnroundedRsh, FnExactUnroundedDiv, FnUnroundedRoads return true. -/
import Derived.Test.YtekicbnfabpaeaaUns
import Derived.OpenShut
namespace Go.Proofs.Ytekicbnfabpaeaa
open Go.RowKit

theorem below_hush {w : World} (n : Nat) : Below w.heap.size w (w.drewN n) := ⟨rfl, rfl, rfl, Nat.le_refl _, fun _ _ => rfl⟩
theorem ret_true {b : Bool} (h : b = true) : Ending.returned (.bool b) = .returned (.bool true) := by rw [h]

theorem and_one_nat (u : Nat) (hu : u < 18446744073709551616) : bits BinOp.and IntKind.u64 (u : Int) 1 = ((u % 2 : Nat) : Int) := by
  rw [show (1 : Int) = ((1 : Nat) : Int) from rfl, u64_and_nat u 1 hu (by omega), nat_mask1]
theorem twice_wrap (x : Nat) (h : x < 9223372036854775808) : IntKind.u64.wrap ((x : Int) * 2) = ((2 * x : Nat) : Int) := by
  rw [IntWalk.u64_in _ ⟨by omega, by omega⟩]; omega
theorem twice_or (x : Nat) (h : x < 9223372036854775808) : bits BinOp.or IntKind.u64 (IntKind.u64.wrap ((x : Int) * 2)) 1 = ((2 * x + 1 : Nat) : Int) := by
  rw [twice_wrap x h, show (1 : Int) = ((1 : Nat) : Int) from rfl, u64_or_nat _ _ (by omega) (by omega), or_one]
  congr 1; omega

theorem rsh_yes (u s : Nat) (hu : u < 18446744073709551616) (h : u % 2 = 1 ∨ 0 < u / 2 % 2 ^ (s % 64)) :
    (((rshN (u : Int).toNat ((s : Int) % 64).toNat : Nat) : Int) == bits BinOp.or IntKind.u64 (IntKind.u64.wrap ((u : Int) / 2 / 2 ^ (s % 64) * 2)) 1) = true := by
  have e1 : ((s : Int) % 64).toNat = s % 64 := by omega
  have e2 : (u : Int) / 2 / 2 ^ (s % 64) = ((u / 2 / 2 ^ (s % 64) : Nat) : Int) := by simp
  have hd : u / 2 / 2 ^ (s % 64) ≤ u / 2 := Nat.div_le_self _ _
  rw [e1, e2, twice_or _ (by omega), Int.toNat_natCast, beq_iff_eq]
  unfold rshN
  rw [if_pos h]
theorem rsh_no (u s : Nat) (hu : u < 18446744073709551616) (h : ¬ (u % 2 = 1 ∨ 0 < u / 2 % 2 ^ (s % 64))) :
    (((rshN (u : Int).toNat ((s : Int) % 64).toNat : Nat) : Int) == IntKind.u64.wrap ((u : Int) / 2 / 2 ^ (s % 64) * 2)) = true := by
  have e1 : ((s : Int) % 64).toNat = s % 64 := by omega
  have e2 : (u : Int) / 2 / 2 ^ (s % 64) = ((u / 2 / 2 ^ (s % 64) : Nat) : Int) := by simp
  have hd : u / 2 / 2 ^ (s % 64) ≤ u / 2 := Nat.div_le_self _ _
  rw [e1, e2, twice_wrap _ (by omega), Int.toNat_natCast, beq_iff_eq]
  unfold rshN
  rw [if_neg h]; rfl
theorem rsh_mask (u s : Nat) (hu : u < 18446744073709551616) : bits BinOp.and IntKind.u64 ((u : Int) / 2) (IntKind.u64.wrap (IntKind.u64.wrap (2 ^ (s % 64)) - 1)) = ((u / 2 % 2 ^ (s % 64) : Nat) : Int) := by
  have hp := pow_lt_64 (k := s % 64) (by omega)
  rw [wrap_pred (by omega), show (u : Int) / 2 = ((u / 2 : Nat) : Int) from by simp, u64_and_nat _ _ (by omega) (by omega), and_pred]

theorem walk_FnExactUnroundedRsh (a0 a1 : Int) (w0 : (Lit.int .u64 a0).wf = true) (w1 : (Lit.int .u8 a1).wf = true) (w : World) :
    Calls Try.prog 5 #[.int .u64 a0, .int .u8 a1] w fun e w' => e = .returned (.bool true) ∧ Below w.heap.size w w' := by
  have b0 := bounds_u64 w0
  have b1 := bounds_u8 w1
  obtain ⟨u, rfl⟩ := Int.eq_ofNat_of_zero_le b0.1
  obtain ⟨s, rfl⟩ := Int.eq_ofNat_of_zero_le b1.1
  clear w0 w1
  have hu : u < 18446744073709551616 := by omega
  have hm := rsh_mask u s hu
  have ha := and_one_nat u hu
  by_cases h1 : u % 2 = 1
  · have H := Lib.hid (rsh_yes u s hu (.inl h1))
    have t1 : (bits BinOp.and IntKind.u64 (u : Int) 1 == 1) = true := by rw [ha, h1]; rfl
    clear hm ha
    go_enter Try.func5, Try.ntmps5
    go_wp2_with (go_at_call 19; refine (rsh_out _ _ (by omega) (by omega) (by omega) (by omega) _).mono ?_; rintro e w' ⟨rfl, n, rfl⟩)
    go_ret
    exact ⟨ret_true H.out, below_hush n⟩
  · have t1 : (bits BinOp.and IntKind.u64 (u : Int) 1 == 1) = false := by rw [ha]; simp; omega
    by_cases h2 : 0 < u / 2 % 2 ^ (s % 64)
    · have H := Lib.hid (rsh_yes u s hu (.inr h2))
      have t2 : decide (0 < bits BinOp.and IntKind.u64 ((u : Int) / 2) (IntKind.u64.wrap (IntKind.u64.wrap (2 ^ (s % 64)) - 1))) = true := by rw [hm]; exact decide_eq_true (Int.ofNat_lt.2 h2)
      clear hm ha h2
      go_enter Try.func5, Try.ntmps5
      go_wp2_with (go_at_call 19; refine (rsh_out _ _ (by omega) (by omega) (by omega) (by omega) _).mono ?_; rintro e w' ⟨rfl, n, rfl⟩)
      go_ret
      exact ⟨ret_true H.out, below_hush n⟩
    · have H := Lib.hid (rsh_no u s hu (by omega))
      have t2 : decide (0 < bits BinOp.and IntKind.u64 ((u : Int) / 2) (IntKind.u64.wrap (IntKind.u64.wrap (2 ^ (s % 64)) - 1))) = false := by rw [hm]; exact decide_eq_false (fun h => h2 (Int.ofNat_lt.1 h))
      clear hm ha h2
      go_enter Try.func5, Try.ntmps5
      go_wp2_with (go_at_call 19; refine (rsh_out _ _ (by omega) (by omega) (by omega) (by omega) _).mono ?_; rintro e w' ⟨rfl, n, rfl⟩)
      go_ret
      exact ⟨ret_true H.out, below_hush n⟩

theorem div_yes (u d : Nat) (hu : u < 18446744073709551616) (h : u / 2 % 2 = 1 ∨ 0 < u / 2 / 2 % d) :
    (((divN (u / 2) d : Nat) : Int) == bits BinOp.or IntKind.u64 (IntKind.u64.wrap ((u : Int) / 2 / 2 / (d : Int) * 2)) 1) = true := by
  have e2 : (u : Int) / 2 / 2 / (d : Int) = ((u / 2 / 2 / d : Nat) : Int) := by simp
  have hd : u / 2 / 2 / d ≤ u / 2 / 2 := Nat.div_le_self _ _
  rw [e2, twice_or _ (by omega), beq_iff_eq]
  unfold divN
  rw [if_pos h]
theorem div_no (u d : Nat) (hu : u < 18446744073709551616) (h : ¬ (u / 2 % 2 = 1 ∨ 0 < u / 2 / 2 % d)) :
    (((divN (u / 2) d : Nat) : Int) == IntKind.u64.wrap ((u : Int) / 2 / 2 / (d : Int) * 2)) = true := by
  have e2 : (u : Int) / 2 / 2 / (d : Int) = ((u / 2 / 2 / d : Nat) : Int) := by simp
  have hd : u / 2 / 2 / d ≤ u / 2 / 2 := Nat.div_le_self _ _
  rw [e2, twice_wrap _ (by omega), beq_iff_eq]
  unfold divN
  rw [if_neg h]; rfl

theorem walk_FnExactUnroundedDiv (a0 a1 : Int) (w0 : (Lit.int .u64 a0).wf = true) (w1 : (Lit.int .u64 a1).wf = true) (w : World) :
    Calls Try.prog 7 #[.int .u64 a0, .int .u64 a1] w fun e w' => e = .returned (.bool true) ∧ Below w.heap.size w w' := by
  have b0 := bounds_u64 w0
  have b1 := bounds_u64 w1
  obtain ⟨u, rfl⟩ := Int.eq_ofNat_of_zero_le b0.1
  obtain ⟨d, rfl⟩ := Int.eq_ofNat_of_zero_le b1.1
  clear w0 w1
  have hu : u < 18446744073709551616 := by omega
  have ha := and_one_nat (u / 2) (by omega)
  rw [show ((u / 2 : Nat) : Int) = (u : Int) / 2 from by simp] at ha
  by_cases h0 : d = 0
  · subst h0
    go_enter Try.func7, Try.ntmps7
    go_wp2_with fail
    go_ret
    exact ⟨rfl, Below.refl _ _⟩
  · have t0 : ((d : Int) == 0) = false := by simp; omega
    have hd1 : 1 ≤ (d : Int) := by omega
    have hr : ((u : Int) / 2 / 2) % (d : Int) = ((u / 2 / 2 % d : Nat) : Int) := by simp
    by_cases h1 : u / 2 % 2 = 1
    · have H := Lib.hid (div_yes u d hu (.inl h1))
      have t1 : (bits BinOp.and IntKind.u64 ((u : Int) / 2) 1 == 1) = true := by rw [ha, h1]; rfl
      clear hr ha h0
      go_enter Try.func7, Try.ntmps7
      go_wp2_with (go_at_call 22; refine (div_out _ _ (by omega) (by omega) (by omega) (by omega) _).mono ?_; rintro e w' ⟨rfl, n, rfl⟩)
      go_ret
      exact ⟨ret_true H.out, below_hush n⟩
    · have t1 : (bits BinOp.and IntKind.u64 ((u : Int) / 2) 1 == 1) = false := by rw [ha]; simp; omega
      by_cases h2 : 0 < u / 2 / 2 % d
      · have H := Lib.hid (div_yes u d hu (.inr h2))
        have t2 : decide (0 < ((u : Int) / 2 / 2) % (d : Int)) = true := by rw [hr]; exact decide_eq_true (Int.ofNat_lt.2 h2)
        clear hr ha h2 h0
        go_enter Try.func7, Try.ntmps7
        go_wp2_with (go_at_call 22; refine (div_out _ _ (by omega) (by omega) (by omega) (by omega) _).mono ?_; rintro e w' ⟨rfl, n, rfl⟩)
        go_ret
        exact ⟨ret_true H.out, below_hush n⟩
      · have H := Lib.hid (div_no u d hu (by omega))
        have t2 : decide (0 < ((u : Int) / 2 / 2) % (d : Int)) = false := by rw [hr]; exact decide_eq_false (fun h => h2 (Int.ofNat_lt.1 h))
        clear hr ha h2 h0
        go_enter Try.func7, Try.ntmps7
        go_wp2_with (go_at_call 22; refine (div_out _ _ (by omega) (by omega) (by omega) (by omega) _).mono ?_; rintro e w' ⟨rfl, n, rfl⟩)
        go_ret
        exact ⟨ret_true H.out, below_hush n⟩

theorem roads_eq (u s : Nat) : (((rshN ((u : Int) / 2).toNat ((s : Int) % 63).toNat : Nat) : Int) == ((divN ((u : Int) / 2).toNat (IntKind.u64.wrap (2 ^ (s % 63))).toNat : Nat) : Int)) = true := by
  have e1 : ((s : Int) % 63).toNat = s % 63 := by omega
  rw [e1, wrap_pow (by omega), Int.toNat_natCast, rsh_div, beq_iff_eq]
theorem roads_four : (((rshN (8 : Int).toNat (1 : Int).toNat : Nat) : Int) == 4) = true := by decide

theorem walk_FnUnroundedRoads (a0 a1 : Int) (w0 : (Lit.int .u64 a0).wf = true) (w1 : (Lit.int .u8 a1).wf = true) (w : World) :
    Calls Try.prog 8 #[.int .u64 a0, .int .u8 a1] w fun e w' => e = .returned (.bool true) ∧ Below w.heap.size w w' := by
  have b0 := bounds_u64 w0
  have b1 := bounds_u8 w1
  obtain ⟨u, rfl⟩ := Int.eq_ofNat_of_zero_le b0.1
  obtain ⟨s, rfl⟩ := Int.eq_ofNat_of_zero_le b1.1
  clear w0 w1
  have hp := pow_lt_64 (k := s % 63) (by omega)
  have hp1 : 1 ≤ IntKind.u64.wrap (2 ^ (s % 63)) := by rw [wrap_pow (by omega)]; have := Nat.two_pow_pos (s % 63); generalize 2 ^ (s % 63) = x at *; omega
  have hp2 : IntKind.u64.wrap (2 ^ (s % 63)) ≤ 18446744073709551615 := by rw [wrap_pow (by omega)]; generalize 2 ^ (s % 63) = x at *; omega
  have q1 := roads_eq u s
  have q2 := roads_four
  clear hp
  go_enter Try.func8, Try.ntmps8
  go_wp2_with fail
  go_quiet (first | (go_at_call 22; exact Calls.quiet_of (div_out _ _ (by omega) (by omega) (by assumption) (by assumption) _)) | (go_at_call 19; exact Calls.quiet_of (rsh_out _ _ (by omega) (by omega) (by omega) (by omega) _)))
  go_wp2_with fail
  go_ret
  exact ⟨rfl, below_hush _⟩
end Go.Proofs.Ytekicbnfabpaeaa
