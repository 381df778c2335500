/- The exact road of 64 bits, by contracts. Written by gen_ex.py. -/
import Derived.Test.YtfkhingkmfapbaaExP
import Derived.Laws.FloatArith
namespace Go.Proofs.Ytfkhingkmfapbaa
open Go.RowKit

/-- what the exact road answers -/
def Ex64 (M : Nat) (x : Int) (neg : Bool) (w : World) (e : Ending) (w' : World) : Prop :=
  Below w.heap.size w w' ∧ ∃ b ok, e = .returned (.tuple #[.float .f64 b, .bool ok]) ∧ (ok = true → b = w64 neg (M * 10 ^ x.toNat) (10 ^ (-x).toNat)) ∧ (ok = false → x ≠ 0 ∨ 4503599627370496 ≤ M)
theorem ex64_yes {M : Nat} {x : Int} {neg : Bool} {w w' : World} {b : Nat} (hb : Below w.heap.size w w') (h : b = w64 neg (M * 10 ^ x.toNat) (10 ^ (-x).toNat)) : Ex64 M x neg w (.returned (.tuple #[.float .f64 b, .bool true])) w' :=
  ⟨hb, _, _, rfl, fun _ => h, fun h => by cases h⟩
theorem ex64_no {M : Nat} {x : Int} {neg : Bool} {w w' : World} {b : Nat} (hb : Below w.heap.size w w') (h : x ≠ 0 ∨ 4503599627370496 ≤ M) : Ex64 M x neg w (.returned (.tuple #[.float .f64 b, .bool false])) w' :=
  ⟨hb, _, _, rfl, fun h => (by cases h), fun _ => h⟩
theorem mulrun64 {x y r : Nat} (h : floatBits .mul .f64 x y = some r) : ∀ w : World, (binOp .mul 65 (.float .f64 x) (.float .f64 y)).run Try.prog w = .ok (.float .f64 r) w := fun w => run_float_arith w .mul 65 .f64 x y r h
theorem quorun64 {x y r : Nat} (h : floatBits .quo .f64 x y = some r) : ∀ w : World, (binOp .quo 65 (.float .f64 x) (.float .f64 y)).run Try.prog w = .ok (.float .f64 r) w := fun w => run_float_arith w .quo 65 .f64 x y r h

set_option maxHeartbeats 4000000 in
set_option maxRecDepth 100000 in
theorem ex64_big (M : Nat) (x : Int) (hM : 4503599627370496 ≤ M) (hM2 : M < 18446744073709551616) (neg : Bool) (w : World) : Calls Try.prog 71 #[.int .u64 M, .int .i64 x, .bool neg] w (Ex64 M x neg w) := by
  have hsh : ¬ M / 4503599627370496 = 0 := by omega
  have HB := Lib.hid (below_new w (.cells #[.int .u64 52, .int .u64 11, .int .i64 (-1023)] 106))
  go_enter Try.func71, Try.ntmps71
  go_wp2_with fail
  refine (info64_any _).mono ?_
  rintro e w1 ⟨rfl, rfl⟩
  go_wp2_with fail
  exact bodyPost_ret (v := .tuple #[.float .f64 0, .bool false]) (by simp [results, Try.results71, go_sem]) rfl (ex64_no HB.out (.inr hM))

set_option maxHeartbeats 4000000 in
set_option maxRecDepth 100000 in
theorem ex64_zero (M : Nat) (hM : M < 4503599627370496) (neg : Bool) (w : World) : Calls Try.prog 71 #[.int .u64 M, .int .i64 (0 : Int), .bool neg] w (Ex64 M (0 : Int) neg w) := by
  have hsh : M / 4503599627370496 = 0 := by omega
  have hfl := of_int64 M
  have hng : ∀ w : World, (Op.unary .neg (.float .f64 (w64 false M 1))).run Try.prog w = .ok (.float .f64 (w64 true M 1)) w := fun w => by rw [← neg64]; rfl
  have HB := Lib.hid (below_new w (.cells #[.int .u64 52, .int .u64 11, .int .i64 (-1023)] 106))
  have HE : Hid (w64 neg M 1 = w64 neg (M * 10 ^ (0 : Int).toNat) (10 ^ (-(0 : Int)).toNat)) := by show _ = _; simp
  cases neg
  all_goals
    go_enter Try.func71, Try.ntmps71
    go_wp2_with fail
    refine (info64_any _).mono ?_
    rintro e w1 ⟨rfl, rfl⟩
    go_wp2_with fail
    exact bodyPost_ret (by simp [results, Try.results71, go_sem]) rfl (ex64_yes HB.out HE.out)

set_option maxHeartbeats 4000000 in
set_option maxRecDepth 100000 in
theorem ex64_high (M : Nat) (x : Int) (hM : M < 4503599627370496) (hx : 37 < x) (hx2 : x < 500) (neg : Bool) (w : World) : Calls Try.prog 71 #[.int .u64 M, .int .i64 x, .bool neg] w (Ex64 M x neg w) := by
  have hsh : M / 4503599627370496 = 0 := by omega
  have hfl := of_int64 M
  have hng : ∀ w : World, (Op.unary .neg (.float .f64 (w64 false M 1))).run Try.prog w = .ok (.float .f64 (w64 true M 1)) w := fun w => by rw [← neg64]; rfl
  have HB := Lib.hid (below_new w (.cells #[.int .u64 52, .int .u64 11, .int .i64 (-1023)] 106))
  cases neg
  all_goals
    go_enter Try.func71, Try.ntmps71
    go_wp2_with fail
    refine (info64_any _).mono ?_
    rintro e w1 ⟨rfl, rfl⟩
    go_wp2_with fail
    first
      | (refine bodyPost_ret (v := .tuple #[.float .f64 (w64 true M 1), .bool false]) ?_ rfl (ex64_no HB.out (.inl (by omega))); simp [results, Try.results71, go_sem]; done)
      | (refine bodyPost_ret (v := .tuple #[.float .f64 (w64 false M 1), .bool false]) ?_ rfl (ex64_no HB.out (.inl (by omega))); simp [results, Try.results71, go_sem]; done)

set_option maxHeartbeats 4000000 in
set_option maxRecDepth 100000 in
theorem ex64_low (M : Nat) (x : Int) (hM : M < 4503599627370496) (hx : x < -22) (hx2 : -500 < x) (neg : Bool) (w : World) : Calls Try.prog 71 #[.int .u64 M, .int .i64 x, .bool neg] w (Ex64 M x neg w) := by
  have hsh : M / 4503599627370496 = 0 := by omega
  have hfl := of_int64 M
  have hng : ∀ w : World, (Op.unary .neg (.float .f64 (w64 false M 1))).run Try.prog w = .ok (.float .f64 (w64 true M 1)) w := fun w => by rw [← neg64]; rfl
  have HB := Lib.hid (below_new w (.cells #[.int .u64 52, .int .u64 11, .int .i64 (-1023)] 106))
  cases neg
  all_goals
    go_enter Try.func71, Try.ntmps71
    go_wp2_with fail
    refine (info64_any _).mono ?_
    rintro e w1 ⟨rfl, rfl⟩
    go_wp2_with fail
    first
      | (refine bodyPost_ret (v := .tuple #[.float .f64 (w64 true M 1), .bool false]) ?_ rfl (ex64_no HB.out (.inl (by omega))); simp [results, Try.results71, go_sem]; done)
      | (refine bodyPost_ret (v := .tuple #[.float .f64 (w64 false M 1), .bool false]) ?_ rfl (ex64_no HB.out (.inl (by omega))); simp [results, Try.results71, go_sem]; done)

set_option maxHeartbeats 4000000 in
set_option maxRecDepth 100000 in
theorem ex64_quo (M : Nat) (k : Nat) (hM : M < 4503599627370496) (hk : k ≤ 22) (hk0 : 0 < k) (neg : Bool) (w : World) : Calls Try.prog 71 #[.int .u64 M, .int .i64 (-(k : Int)), .bool neg] w (Ex64 M (-(k : Int)) neg w) := by
  have hsh : M / 4503599627370496 = 0 := by omega
  have hfl := of_int64 M
  have hng : ∀ w : World, (Op.unary .neg (.float .f64 (w64 false M 1))).run Try.prog w = .ok (.float .f64 (w64 true M 1)) w := fun w => by rw [← neg64]; rfl
  have HB := Lib.hid (below_new w (.cells #[.int .u64 52, .int .u64 11, .int .i64 (-1023)] 106))
  have hq := quorun64 (quo64 (small64 neg (show M < 2 ^ 53 by omega)) (ten64 false hk) (by have := Nat.pow_pos (n := k) (show 0 < 10 by omega); omega))
  have HE : Hid (w64 neg M (10 ^ k) = w64 neg (M * 10 ^ (-(k : Int)).toNat) (10 ^ (- -(k : Int)).toNat)) := by
    show _ = _
    rw [show (-(k : Int)).toNat = 0 by omega, show (- -(k : Int)).toNat = k by omega, Nat.pow_zero, Nat.mul_one]
  have HP := Lib.hid (fun w => pow64_any k w (by omega))
  cases neg
  all_goals
    go_enter Try.func71, Try.ntmps71
    go_wp2_with fail
    refine (info64_any _).mono ?_
    rintro e w1 ⟨rfl, rfl⟩
    go_wp2_with fail
    refine (HP.out _).mono ?_
    rintro e w2 ⟨rfl, hb2⟩
    go_wp2_with fail
    exact bodyPost_ret (by simp [results, Try.results71, go_sem]) rfl (ex64_yes (HB.out.trans (hb2.mono HB.out.size)) HE.out)

set_option maxHeartbeats 4000000 in
set_option maxRecDepth 100000 in
theorem ex64_mul (M : Nat) (k : Nat) (hM : M < 4503599627370496) (hM1 : M ≤ 10 ^ 15) (hk : k ≤ 22) (hk0 : 0 < k) (neg : Bool) (w : World) : Calls Try.prog 71 #[.int .u64 M, .int .i64 (k : Int), .bool neg] w (Ex64 M (k : Int) neg w) := by
  have hsh : M / 4503599627370496 = 0 := by omega
  have hfl := of_int64 M
  have hng : ∀ w : World, (Op.unary .neg (.float .f64 (w64 false M 1))).run Try.prog w = .ok (.float .f64 (w64 true M 1)) w := fun w => by rw [← neg64]; rfl
  have HB := Lib.hid (below_new w (.cells #[.int .u64 52, .int .u64 11, .int .i64 (-1023)] 106))
  have hm := mulrun64 (mul64 (small64 neg (show M < 2 ^ 53 by omega)) (ten64 false hk))
  have hN : ∃ N', ¬ 10 ^ 15 < N' ∧ Reads Ieee.double (w64 neg M 1) neg N' := ⟨M, by have := hM1; omega, small64 neg (by omega)⟩
  have hgt : (FloatKind.f64.format.order (w64 neg (M) 1) 4831355200913801216 == some Ordering.gt) = false := by
    obtain ⟨N', h1, h2⟩ := hN
    have := gt64 h2
    rw [decide_eq_false h1, Bool.and_false] at this
    exact this
  have hlt : (FloatKind.f64.format.order (w64 neg (M) 1) 14054727237768577024 == some Ordering.lt) = false := by
    obtain ⟨N', h1, h2⟩ := hN
    have := lt64 h2
    rw [decide_eq_false h1, Bool.and_false] at this
    exact this
  clear hN
  have HE : Hid (w64 neg (M * 10 ^ k) 1 = w64 neg (M * 10 ^ (k : Int).toNat) (10 ^ (-(k : Int)).toNat)) := by
    show _ = _
    rw [show (-(k : Int)).toNat = 0 by omega, Int.toNat_natCast, Nat.pow_zero]
  have HP := Lib.hid (fun w => pow64_any k w (by omega))
  clear hM1
  cases neg
  all_goals
    go_enter Try.func71, Try.ntmps71
    go_wp2_with fail
    refine (info64_any _).mono ?_
    rintro e w1 ⟨rfl, rfl⟩
    go_wp2_with fail
    refine (HP.out _).mono ?_
    rintro e w2 ⟨rfl, hb2⟩
    go_wp2_with fail
    exact bodyPost_ret (by simp [results, Try.results71, go_sem]) rfl (ex64_yes (HB.out.trans (hb2.mono HB.out.size)) HE.out)

set_option maxHeartbeats 4000000 in
set_option maxRecDepth 100000 in
theorem ex64_over (M : Nat) (k : Nat) (hM : M < 4503599627370496) (hM1 : 10 ^ 15 < M) (hk : k ≤ 22) (hk0 : 0 < k) (neg : Bool) (w : World) : Calls Try.prog 71 #[.int .u64 M, .int .i64 (k : Int), .bool neg] w (Ex64 M (k : Int) neg w) := by
  have hsh : M / 4503599627370496 = 0 := by omega
  have hfl := of_int64 M
  have hng : ∀ w : World, (Op.unary .neg (.float .f64 (w64 false M 1))).run Try.prog w = .ok (.float .f64 (w64 true M 1)) w := fun w => by rw [← neg64]; rfl
  have HB := Lib.hid (below_new w (.cells #[.int .u64 52, .int .u64 11, .int .i64 (-1023)] 106))
  have hN : ∃ N', 10 ^ 15 < N' ∧ Reads Ieee.double (w64 neg M 1) neg N' := ⟨M, by omega, small64 neg (by omega)⟩
  have hgt : (FloatKind.f64.format.order (w64 neg (M) 1) 4831355200913801216 == some Ordering.gt) = (!neg) := by
    obtain ⟨N', h1, h2⟩ := hN
    have := gt64 h2
    rw [decide_eq_true h1, Bool.and_true] at this
    exact this
  have hlt : (FloatKind.f64.format.order (w64 neg (M) 1) 14054727237768577024 == some Ordering.lt) = neg := by
    obtain ⟨N', h1, h2⟩ := hN
    have := lt64 h2
    rw [decide_eq_true h1, Bool.and_true] at this
    exact this
  clear hN
  clear hM1
  cases neg
  all_goals
    simp only [Bool.not_false, Bool.not_true] at hgt hlt
    go_enter Try.func71, Try.ntmps71
    go_wp2_with fail
    refine (info64_any _).mono ?_
    rintro e w1 ⟨rfl, rfl⟩
    go_wp2_with fail
    first
      | (refine bodyPost_ret (v := .tuple #[.float .f64 (w64 true M 1), .bool false]) ?_ rfl (ex64_no HB.out (.inl (by omega))); simp [results, Try.results71, go_sem]; done)
      | (refine bodyPost_ret (v := .tuple #[.float .f64 (w64 false M 1), .bool false]) ?_ rfl (ex64_no HB.out (.inl (by omega))); simp [results, Try.results71, go_sem]; done)

set_option maxHeartbeats 4000000 in
set_option maxRecDepth 100000 in
theorem ex64_far (M : Nat) (j : Nat) (hM : M < 4503599627370496) (hM1 : M * 10 ^ j ≤ 10 ^ 15) (hj : j ≤ 15) (hj0 : 0 < j) (neg : Bool) (w : World) : Calls Try.prog 71 #[.int .u64 M, .int .i64 ((j : Int) + 22), .bool neg] w (Ex64 M ((j : Int) + 22) neg w) := by
  have hsh : M / 4503599627370496 = 0 := by omega
  have hfl := of_int64 M
  have hng : ∀ w : World, (Op.unary .neg (.float .f64 (w64 false M 1))).run Try.prog w = .ok (.float .f64 (w64 true M 1)) w := fun w => by rw [← neg64]; rfl
  have HB := Lib.hid (below_new w (.cells #[.int .u64 52, .int .u64 11, .int .i64 (-1023)] 106))
  have hm := mulrun64 (mul64 (small64 neg (show M < 2 ^ 53 by omega)) (ten64 false (show j ≤ 22 by omega)))
  have hR := small64 neg (show M * 10 ^ j < 2 ^ 53 by omega)
  have hN : ∃ N', ¬ 10 ^ 15 < N' ∧ Reads Ieee.double (w64 neg (M * 10 ^ j) 1) neg N' := ⟨M * 10 ^ j, by omega, hR⟩
  have hm2 := mulrun64 (mul64 hR (ten64 false (show 22 ≤ 22 by omega)))
  clear hR
  have hgt : (FloatKind.f64.format.order (w64 neg (M * 10 ^ j) 1) 4831355200913801216 == some Ordering.gt) = false := by
    obtain ⟨N', h1, h2⟩ := hN
    have := gt64 h2
    rw [decide_eq_false h1, Bool.and_false] at this
    exact this
  have hlt : (FloatKind.f64.format.order (w64 neg (M * 10 ^ j) 1) 14054727237768577024 == some Ordering.lt) = false := by
    obtain ⟨N', h1, h2⟩ := hN
    have := lt64 h2
    rw [decide_eq_false h1, Bool.and_false] at this
    exact this
  clear hN
  have HE : Hid (w64 neg (M * 10 ^ j * 10 ^ 22) 1 = w64 neg (M * 10 ^ ((j : Int) + 22).toNat) (10 ^ (-((j : Int) + 22)).toNat)) := by
    show _ = _
    rw [show (-((j : Int) + 22)).toNat = 0 by omega, show ((j : Int) + 22).toNat = j + 22 by omega, Nat.pow_zero, Nat.pow_add, Nat.mul_assoc]
  have HP2 := Lib.hid (fun w => pow64_any 22 w (by omega))
  obtain ⟨T, hT⟩ : ∃ T, T = 10 ^ 22 := ⟨_, rfl⟩
  have HP3 : Hid (∀ w : World, Calls Try.prog 79 #[.int .i64 22] w fun e w' => e = .returned (.float .f64 (w64 false T 1)) ∧ Below w.heap.size w w') := by rw [hT]; exact HP2.out
  rw [← hT] at HE hm2
  clear hT HP2
  generalize w64 neg (M * 10 ^ j * T) 1 = R2 at *
  have HP := Lib.hid (fun w => pow64_any j w (by omega))
  have hsub : IntKind.i64.wrap ((j : Int) + 22 - 22) = (j : Int) := by rw [IntWalk.i64_in _ (by omega)]; omega
  clear hM1
  generalize w64 neg (M * 10 ^ j) 1 = R at *
  generalize w64 false (10 ^ j) 1 = T1 at *
  cases neg
  all_goals
    go_enter Try.func71, Try.ntmps71
    go_wp2_with fail
    refine (info64_any _).mono ?_
    rintro e w1 ⟨rfl, rfl⟩
    go_wp2_with fail
    refine (HP.out _).mono ?_
    rintro e w2 ⟨rfl, hb2⟩
    go_wp2_with fail
    refine (HP3.out _).mono ?_
    rintro e w3 ⟨rfl, hb3⟩
    go_wp2_with fail
    exact bodyPost_ret (by simp [results, Try.results71, go_sem]) rfl (ex64_yes (HB.out.trans ((hb2.trans (hb3.mono hb2.size)).mono HB.out.size)) HE.out)

set_option maxHeartbeats 4000000 in
set_option maxRecDepth 100000 in
theorem ex64_farover (M : Nat) (j : Nat) (hM : M < 4503599627370496) (hM1 : 10 ^ 15 < M * 10 ^ j) (hj : j ≤ 15) (hj0 : 0 < j) (neg : Bool) (w : World) : Calls Try.prog 71 #[.int .u64 M, .int .i64 ((j : Int) + 22), .bool neg] w (Ex64 M ((j : Int) + 22) neg w) := by
  have hsh : M / 4503599627370496 = 0 := by omega
  have hfl := of_int64 M
  have hng : ∀ w : World, (Op.unary .neg (.float .f64 (w64 false M 1))).run Try.prog w = .ok (.float .f64 (w64 true M 1)) w := fun w => by rw [← neg64]; rfl
  have HB := Lib.hid (below_new w (.cells #[.int .u64 52, .int .u64 11, .int .i64 (-1023)] 106))
  have hm := mulrun64 (mul64 (small64 neg (show M < 2 ^ 53 by omega)) (ten64 false (show j ≤ 22 by omega)))
  have hN : ∃ N', 10 ^ 15 < N' ∧ Reads Ieee.double (w64 neg (M * 10 ^ j) 1) neg N' := great64 neg hM1 (by
    have h1 : 10 ^ j ≤ 10 ^ 15 := Nat.pow_le_pow_right (by omega) hj
    have h2 : M * 10 ^ j ≤ 4503599627370496 * 10 ^ 15 := Nat.mul_le_mul (by omega) h1
    exact Nat.lt_of_le_of_lt h2 (by decide))
  have hgt : (FloatKind.f64.format.order (w64 neg (M * 10 ^ j) 1) 4831355200913801216 == some Ordering.gt) = (!neg) := by
    obtain ⟨N', h1, h2⟩ := hN
    have := gt64 h2
    rw [decide_eq_true h1, Bool.and_true] at this
    exact this
  have hlt : (FloatKind.f64.format.order (w64 neg (M * 10 ^ j) 1) 14054727237768577024 == some Ordering.lt) = neg := by
    obtain ⟨N', h1, h2⟩ := hN
    have := lt64 h2
    rw [decide_eq_true h1, Bool.and_true] at this
    exact this
  clear hN
  have HP := Lib.hid (fun w => pow64_any j w (by omega))
  have hsub : IntKind.i64.wrap ((j : Int) + 22 - 22) = (j : Int) := by rw [IntWalk.i64_in _ (by omega)]; omega
  clear hM1
  generalize w64 neg (M * 10 ^ j) 1 = R at *
  generalize w64 false (10 ^ j) 1 = T1 at *
  cases neg
  all_goals
    simp only [Bool.not_false, Bool.not_true] at hgt hlt
    go_enter Try.func71, Try.ntmps71
    go_wp2_with fail
    refine (info64_any _).mono ?_
    rintro e w1 ⟨rfl, rfl⟩
    go_wp2_with fail
    refine (HP.out _).mono ?_
    rintro e w2 ⟨rfl, hb2⟩
    go_wp2_with fail
    exact bodyPost_ret (v := .tuple #[.float .f64 R, .bool false]) (by simp [results, Try.results71, go_sem]) rfl (ex64_no (HB.out.trans (hb2.mono HB.out.size)) (.inl (by omega)))

theorem ex64_any (M : Nat) (x : Int) (neg : Bool) (w : World) (hM : M < 18446744073709551616) (h0 : -500 < x) (h1 : x < 500) : Calls Try.prog 71 #[.int .u64 M, .int .i64 x, .bool neg] w (Ex64 M x neg w) := by
  by_cases hb : 4503599627370496 ≤ M
  · exact ex64_big M x hb hM neg w
  · rcases Int.lt_trichotomy x 0 with hx | rfl | hx
    · by_cases hl : x < -22
      · exact ex64_low M x (by omega) hl h0 neg w
      · obtain ⟨k, rfl⟩ : ∃ k : Nat, x = -(k : Int) := ⟨(-x).toNat, by omega⟩
        exact ex64_quo M k (by omega) (by omega) (by omega) neg w
    · exact ex64_zero M (by omega) neg w
    · by_cases hh : 37 < x
      · exact ex64_high M x (by omega) hh h1 neg w
      · by_cases hm : x ≤ 22
        · obtain ⟨k, rfl⟩ : ∃ k : Nat, x = (k : Int) := ⟨x.toNat, by omega⟩
          by_cases hl : M ≤ 10 ^ 15
          · exact ex64_mul M k (by omega) hl (by omega) (by omega) neg w
          · exact ex64_over M k (by omega) (by omega) (by omega) (by omega) neg w
        · obtain ⟨j, rfl⟩ : ∃ j : Nat, x = (j : Int) + 22 := ⟨(x - 22).toNat, by omega⟩
          by_cases hl : M * 10 ^ j ≤ 10 ^ 15
          · exact ex64_far M j (by omega) hl (by omega) (by omega) neg w
          · exact ex64_farover M j (by omega) (by omega) (by omega) (by omega) neg w
theorem ex64_gs (M : Nat) (x : Int) (neg : Bool) (w : World) (hM : M < 18446744073709551616) (h0 : -500 < x) (h1 : x < 500) : Calls Try.prog 55 #[.int .u64 M, .int .i64 x, .bool neg] w (Ex64 M x neg w) := by
  go_enter Try.func55, Try.ntmps55
  go_wp2_with fail
  refine (ex64_any M x neg _ hM h0 h1).mono ?_
  rintro e w' ⟨hb, b, ok, rfl, h2, h3⟩
  go_wp2_with fail
  exact bodyPost_ret (v := .tuple #[.float .f64 b, .bool ok]) (by simp [results, Try.results55, go_sem]) rfl ⟨hb, b, ok, rfl, h2, h3⟩
theorem ex64_out (M : Nat) (x : Int) (neg : Bool) (w : World) (hM : M < 18446744073709551616) (h0 : -500 < x) (h1 : x < 500) : Calls Try.prog 34 #[.int .u64 M, .int .i64 x, .bool neg] w (Ex64 M x neg w) := by
  go_enter Try.func34, Try.ntmps34
  go_wp2_with fail
  refine (ex64_gs M x neg _ hM h0 h1).mono ?_
  rintro e w' ⟨hb, b, ok, rfl, h2, h3⟩
  go_wp2_with fail
  exact bodyPost_ret (v := .tuple #[.float .f64 b, .bool ok]) (by simp [results, Try.results34, go_sem]) rfl ⟨hb, b, ok, rfl, h2, h3⟩
end Go.Proofs.Ytfkhingkmfapbaa
