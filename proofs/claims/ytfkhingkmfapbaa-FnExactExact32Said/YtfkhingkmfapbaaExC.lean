/- The exact road of 32 bits, by contracts. Written by gen_ex.py. -/
import Derived.Test.YtfkhingkmfapbaaExP
import Derived.Laws.FloatArith
namespace Go.Proofs.Ytfkhingkmfapbaa
open Go.RowKit

/-- what the exact road answers -/
def Ex32 (M : Nat) (x : Int) (neg : Bool) (w : World) (e : Ending) (w' : World) : Prop :=
  Below w.heap.size w w' ∧ ∃ b ok, e = .returned (.tuple #[.float .f32 b, .bool ok]) ∧ (ok = true → b = w32 neg (M * 10 ^ x.toNat) (10 ^ (-x).toNat)) ∧ (ok = false → x ≠ 0 ∨ 8388608 ≤ M)
theorem ex32_yes {M : Nat} {x : Int} {neg : Bool} {w w' : World} {b : Nat} (hb : Below w.heap.size w w') (h : b = w32 neg (M * 10 ^ x.toNat) (10 ^ (-x).toNat)) : Ex32 M x neg w (.returned (.tuple #[.float .f32 b, .bool true])) w' :=
  ⟨hb, _, _, rfl, fun _ => h, fun h => by cases h⟩
theorem ex32_no {M : Nat} {x : Int} {neg : Bool} {w w' : World} {b : Nat} (hb : Below w.heap.size w w') (h : x ≠ 0 ∨ 8388608 ≤ M) : Ex32 M x neg w (.returned (.tuple #[.float .f32 b, .bool false])) w' :=
  ⟨hb, _, _, rfl, fun h => (by cases h), fun _ => h⟩
theorem mulrun32 {x y r : Nat} (h : floatBits .mul .f32 x y = some r) : ∀ w : World, (binOp .mul 54 (.float .f32 x) (.float .f32 y)).run Try.prog w = .ok (.float .f32 r) w := fun w => run_float_arith w .mul 54 .f32 x y r h
theorem quorun32 {x y r : Nat} (h : floatBits .quo .f32 x y = some r) : ∀ w : World, (binOp .quo 54 (.float .f32 x) (.float .f32 y)).run Try.prog w = .ok (.float .f32 r) w := fun w => run_float_arith w .quo 54 .f32 x y r h

set_option maxHeartbeats 4000000 in
set_option maxRecDepth 100000 in
theorem ex32_big (M : Nat) (x : Int) (hM : 8388608 ≤ M) (hM2 : M < 18446744073709551616) (neg : Bool) (w : World) : Calls Try.prog 65 #[.int .u64 M, .int .i64 x, .bool neg] w (Ex32 M x neg w) := by
  have hsh : ¬ M / 8388608 = 0 := by omega
  have HB := Lib.hid (Below.refl w.heap.size w)
  go_enter Try.func65, Try.ntmps65
  go_wp2_with fail
  exact bodyPost_ret (v := .tuple #[.float .f32 0, .bool false]) (by simp [results, Try.results65, go_sem]) rfl (ex32_no HB.out (.inr hM))

set_option maxHeartbeats 4000000 in
set_option maxRecDepth 100000 in
theorem ex32_zero (M : Nat) (hM : M < 8388608) (neg : Bool) (w : World) : Calls Try.prog 65 #[.int .u64 M, .int .i64 (0 : Int), .bool neg] w (Ex32 M (0 : Int) neg w) := by
  have hsh : M / 8388608 = 0 := by omega
  have hfl := of_int32 M
  have hng : ∀ w : World, (Op.unary .neg (.float .f32 (w32 false M 1))).run Try.prog w = .ok (.float .f32 (w32 true M 1)) w := fun w => by rw [← neg32]; rfl
  have HB := Lib.hid (Below.refl w.heap.size w)
  have HE : Hid (w32 neg M 1 = w32 neg (M * 10 ^ (0 : Int).toNat) (10 ^ (-(0 : Int)).toNat)) := by show _ = _; simp
  cases neg
  all_goals
    go_enter Try.func65, Try.ntmps65
    go_wp2_with fail
    exact bodyPost_ret (by simp [results, Try.results65, go_sem]) rfl (ex32_yes HB.out HE.out)

set_option maxHeartbeats 4000000 in
set_option maxRecDepth 100000 in
theorem ex32_high (M : Nat) (x : Int) (hM : M < 8388608) (hx : 17 < x) (hx2 : x < 500) (neg : Bool) (w : World) : Calls Try.prog 65 #[.int .u64 M, .int .i64 x, .bool neg] w (Ex32 M x neg w) := by
  have hsh : M / 8388608 = 0 := by omega
  have hfl := of_int32 M
  have hng : ∀ w : World, (Op.unary .neg (.float .f32 (w32 false M 1))).run Try.prog w = .ok (.float .f32 (w32 true M 1)) w := fun w => by rw [← neg32]; rfl
  have HB := Lib.hid (Below.refl w.heap.size w)
  cases neg
  all_goals
    go_enter Try.func65, Try.ntmps65
    go_wp2_with fail
    first
      | (refine bodyPost_ret (v := .tuple #[.float .f32 (w32 true M 1), .bool false]) ?_ rfl (ex32_no HB.out (.inl (by omega))); simp [results, Try.results65, go_sem]; done)
      | (refine bodyPost_ret (v := .tuple #[.float .f32 (w32 false M 1), .bool false]) ?_ rfl (ex32_no HB.out (.inl (by omega))); simp [results, Try.results65, go_sem]; done)

set_option maxHeartbeats 4000000 in
set_option maxRecDepth 100000 in
theorem ex32_low (M : Nat) (x : Int) (hM : M < 8388608) (hx : x < -10) (hx2 : -500 < x) (neg : Bool) (w : World) : Calls Try.prog 65 #[.int .u64 M, .int .i64 x, .bool neg] w (Ex32 M x neg w) := by
  have hsh : M / 8388608 = 0 := by omega
  have hfl := of_int32 M
  have hng : ∀ w : World, (Op.unary .neg (.float .f32 (w32 false M 1))).run Try.prog w = .ok (.float .f32 (w32 true M 1)) w := fun w => by rw [← neg32]; rfl
  have HB := Lib.hid (Below.refl w.heap.size w)
  cases neg
  all_goals
    go_enter Try.func65, Try.ntmps65
    go_wp2_with fail
    first
      | (refine bodyPost_ret (v := .tuple #[.float .f32 (w32 true M 1), .bool false]) ?_ rfl (ex32_no HB.out (.inl (by omega))); simp [results, Try.results65, go_sem]; done)
      | (refine bodyPost_ret (v := .tuple #[.float .f32 (w32 false M 1), .bool false]) ?_ rfl (ex32_no HB.out (.inl (by omega))); simp [results, Try.results65, go_sem]; done)

set_option maxHeartbeats 4000000 in
set_option maxRecDepth 100000 in
theorem ex32_quo (M : Nat) (k : Nat) (hM : M < 8388608) (hk : k ≤ 10) (hk0 : 0 < k) (neg : Bool) (w : World) : Calls Try.prog 65 #[.int .u64 M, .int .i64 (-(k : Int)), .bool neg] w (Ex32 M (-(k : Int)) neg w) := by
  have hsh : M / 8388608 = 0 := by omega
  have hfl := of_int32 M
  have hng : ∀ w : World, (Op.unary .neg (.float .f32 (w32 false M 1))).run Try.prog w = .ok (.float .f32 (w32 true M 1)) w := fun w => by rw [← neg32]; rfl
  have HB := Lib.hid (Below.refl w.heap.size w)
  have hq := quorun32 (quo32 (small32 neg (show M < 2 ^ 24 by omega)) (ten32 false hk) (by have := Nat.pow_pos (n := k) (show 0 < 10 by omega); omega))
  have HE : Hid (w32 neg M (10 ^ k) = w32 neg (M * 10 ^ (-(k : Int)).toNat) (10 ^ (- -(k : Int)).toNat)) := by
    show _ = _
    rw [show (-(k : Int)).toNat = 0 by omega, show (- -(k : Int)).toNat = k by omega, Nat.pow_zero, Nat.mul_one]
  have HP := Lib.hid (fun w => pow32_any k w (by omega))
  cases neg
  all_goals
    go_enter Try.func65, Try.ntmps65
    go_wp2_with fail
    refine (HP.out _).mono ?_
    rintro e w2 ⟨rfl, hb2⟩
    go_wp2_with fail
    exact bodyPost_ret (by simp [results, Try.results65, go_sem]) rfl (ex32_yes (HB.out.trans (hb2.mono HB.out.size)) HE.out)

set_option maxHeartbeats 4000000 in
set_option maxRecDepth 100000 in
theorem ex32_mul (M : Nat) (k : Nat) (hM : M < 8388608) (hM1 : M ≤ 10 ^ 7) (hk : k ≤ 10) (hk0 : 0 < k) (neg : Bool) (w : World) : Calls Try.prog 65 #[.int .u64 M, .int .i64 (k : Int), .bool neg] w (Ex32 M (k : Int) neg w) := by
  have hsh : M / 8388608 = 0 := by omega
  have hfl := of_int32 M
  have hng : ∀ w : World, (Op.unary .neg (.float .f32 (w32 false M 1))).run Try.prog w = .ok (.float .f32 (w32 true M 1)) w := fun w => by rw [← neg32]; rfl
  have HB := Lib.hid (Below.refl w.heap.size w)
  have hm := mulrun32 (mul32 (small32 neg (show M < 2 ^ 24 by omega)) (ten32 false hk))
  have hN : ∃ N', ¬ 10 ^ 7 < N' ∧ Reads Ieee.single (w32 neg M 1) neg N' := ⟨M, by have := hM1; omega, small32 neg (by omega)⟩
  have hgt : (FloatKind.f32.format.order (w32 neg (M) 1) 1259902592 == some Ordering.gt) = false := by
    obtain ⟨N', h1, h2⟩ := hN
    have := gt32 h2
    rw [decide_eq_false h1, Bool.and_false] at this
    exact this
  have hlt : (FloatKind.f32.format.order (w32 neg (M) 1) 3407386240 == some Ordering.lt) = false := by
    obtain ⟨N', h1, h2⟩ := hN
    have := lt32 h2
    rw [decide_eq_false h1, Bool.and_false] at this
    exact this
  clear hN
  have HE : Hid (w32 neg (M * 10 ^ k) 1 = w32 neg (M * 10 ^ (k : Int).toNat) (10 ^ (-(k : Int)).toNat)) := by
    show _ = _
    rw [show (-(k : Int)).toNat = 0 by omega, Int.toNat_natCast, Nat.pow_zero]
  have HP := Lib.hid (fun w => pow32_any k w (by omega))
  clear hM1
  cases neg
  all_goals
    go_enter Try.func65, Try.ntmps65
    go_wp2_with fail
    refine (HP.out _).mono ?_
    rintro e w2 ⟨rfl, hb2⟩
    go_wp2_with fail
    exact bodyPost_ret (by simp [results, Try.results65, go_sem]) rfl (ex32_yes (HB.out.trans (hb2.mono HB.out.size)) HE.out)

set_option maxHeartbeats 4000000 in
set_option maxRecDepth 100000 in
theorem ex32_over (M : Nat) (k : Nat) (hM : M < 8388608) (hM1 : 10 ^ 7 < M) (hk : k ≤ 10) (hk0 : 0 < k) (neg : Bool) (w : World) : Calls Try.prog 65 #[.int .u64 M, .int .i64 (k : Int), .bool neg] w (Ex32 M (k : Int) neg w) := by
  have hsh : M / 8388608 = 0 := by omega
  have hfl := of_int32 M
  have hng : ∀ w : World, (Op.unary .neg (.float .f32 (w32 false M 1))).run Try.prog w = .ok (.float .f32 (w32 true M 1)) w := fun w => by rw [← neg32]; rfl
  have HB := Lib.hid (Below.refl w.heap.size w)
  have hN : ∃ N', 10 ^ 7 < N' ∧ Reads Ieee.single (w32 neg M 1) neg N' := ⟨M, by omega, small32 neg (by omega)⟩
  have hgt : (FloatKind.f32.format.order (w32 neg (M) 1) 1259902592 == some Ordering.gt) = (!neg) := by
    obtain ⟨N', h1, h2⟩ := hN
    have := gt32 h2
    rw [decide_eq_true h1, Bool.and_true] at this
    exact this
  have hlt : (FloatKind.f32.format.order (w32 neg (M) 1) 3407386240 == some Ordering.lt) = neg := by
    obtain ⟨N', h1, h2⟩ := hN
    have := lt32 h2
    rw [decide_eq_true h1, Bool.and_true] at this
    exact this
  clear hN
  clear hM1
  cases neg
  all_goals
    simp only [Bool.not_false, Bool.not_true] at hgt hlt
    go_enter Try.func65, Try.ntmps65
    go_wp2_with fail
    first
      | (refine bodyPost_ret (v := .tuple #[.float .f32 (w32 true M 1), .bool false]) ?_ rfl (ex32_no HB.out (.inl (by omega))); simp [results, Try.results65, go_sem]; done)
      | (refine bodyPost_ret (v := .tuple #[.float .f32 (w32 false M 1), .bool false]) ?_ rfl (ex32_no HB.out (.inl (by omega))); simp [results, Try.results65, go_sem]; done)

set_option maxHeartbeats 4000000 in
set_option maxRecDepth 100000 in
theorem ex32_far (M : Nat) (j : Nat) (hM : M < 8388608) (hM1 : M * 10 ^ j ≤ 10 ^ 7) (hj : j ≤ 7) (hj0 : 0 < j) (neg : Bool) (w : World) : Calls Try.prog 65 #[.int .u64 M, .int .i64 ((j : Int) + 10), .bool neg] w (Ex32 M ((j : Int) + 10) neg w) := by
  have hsh : M / 8388608 = 0 := by omega
  have hfl := of_int32 M
  have hng : ∀ w : World, (Op.unary .neg (.float .f32 (w32 false M 1))).run Try.prog w = .ok (.float .f32 (w32 true M 1)) w := fun w => by rw [← neg32]; rfl
  have HB := Lib.hid (Below.refl w.heap.size w)
  have hm := mulrun32 (mul32 (small32 neg (show M < 2 ^ 24 by omega)) (ten32 false (show j ≤ 10 by omega)))
  have hR := small32 neg (show M * 10 ^ j < 2 ^ 24 by omega)
  have hN : ∃ N', ¬ 10 ^ 7 < N' ∧ Reads Ieee.single (w32 neg (M * 10 ^ j) 1) neg N' := ⟨M * 10 ^ j, by omega, hR⟩
  have hm2 := mulrun32 (mul32 hR (ten32 false (show 10 ≤ 10 by omega)))
  clear hR
  have hgt : (FloatKind.f32.format.order (w32 neg (M * 10 ^ j) 1) 1259902592 == some Ordering.gt) = false := by
    obtain ⟨N', h1, h2⟩ := hN
    have := gt32 h2
    rw [decide_eq_false h1, Bool.and_false] at this
    exact this
  have hlt : (FloatKind.f32.format.order (w32 neg (M * 10 ^ j) 1) 3407386240 == some Ordering.lt) = false := by
    obtain ⟨N', h1, h2⟩ := hN
    have := lt32 h2
    rw [decide_eq_false h1, Bool.and_false] at this
    exact this
  clear hN
  have HE : Hid (w32 neg (M * 10 ^ j * 10 ^ 10) 1 = w32 neg (M * 10 ^ ((j : Int) + 10).toNat) (10 ^ (-((j : Int) + 10)).toNat)) := by
    show _ = _
    rw [show (-((j : Int) + 10)).toNat = 0 by omega, show ((j : Int) + 10).toNat = j + 10 by omega, Nat.pow_zero, Nat.pow_add, Nat.mul_assoc]
  have HP2 := Lib.hid (fun w => pow32_any 10 w (by omega))
  obtain ⟨T, hT⟩ : ∃ T, T = 10 ^ 10 := ⟨_, rfl⟩
  have HP3 : Hid (∀ w : World, Calls Try.prog 76 #[.int .i64 10] w fun e w' => e = .returned (.float .f32 (w32 false T 1)) ∧ Below w.heap.size w w') := by rw [hT]; exact HP2.out
  rw [← hT] at HE hm2
  clear hT HP2
  generalize w32 neg (M * 10 ^ j * T) 1 = R2 at *
  have HP := Lib.hid (fun w => pow32_any j w (by omega))
  have hsub : IntKind.i64.wrap ((j : Int) + 10 - 10) = (j : Int) := by rw [IntWalk.i64_in _ (by omega)]; omega
  clear hM1
  generalize w32 neg (M * 10 ^ j) 1 = R at *
  generalize w32 false (10 ^ j) 1 = T1 at *
  cases neg
  all_goals
    go_enter Try.func65, Try.ntmps65
    go_wp2_with fail
    refine (HP.out _).mono ?_
    rintro e w2 ⟨rfl, hb2⟩
    go_wp2_with fail
    refine (HP3.out _).mono ?_
    rintro e w3 ⟨rfl, hb3⟩
    go_wp2_with fail
    exact bodyPost_ret (by simp [results, Try.results65, go_sem]) rfl (ex32_yes (HB.out.trans ((hb2.trans (hb3.mono hb2.size)).mono HB.out.size)) HE.out)

set_option maxHeartbeats 4000000 in
set_option maxRecDepth 100000 in
theorem ex32_farover (M : Nat) (j : Nat) (hM : M < 8388608) (hM1 : 10 ^ 7 < M * 10 ^ j) (hj : j ≤ 7) (hj0 : 0 < j) (neg : Bool) (w : World) : Calls Try.prog 65 #[.int .u64 M, .int .i64 ((j : Int) + 10), .bool neg] w (Ex32 M ((j : Int) + 10) neg w) := by
  have hsh : M / 8388608 = 0 := by omega
  have hfl := of_int32 M
  have hng : ∀ w : World, (Op.unary .neg (.float .f32 (w32 false M 1))).run Try.prog w = .ok (.float .f32 (w32 true M 1)) w := fun w => by rw [← neg32]; rfl
  have HB := Lib.hid (Below.refl w.heap.size w)
  have hm := mulrun32 (mul32 (small32 neg (show M < 2 ^ 24 by omega)) (ten32 false (show j ≤ 10 by omega)))
  have hN : ∃ N', 10 ^ 7 < N' ∧ Reads Ieee.single (w32 neg (M * 10 ^ j) 1) neg N' := great32 neg hM1 (by
    have h1 : 10 ^ j ≤ 10 ^ 7 := Nat.pow_le_pow_right (by omega) hj
    have h2 : M * 10 ^ j ≤ 8388608 * 10 ^ 7 := Nat.mul_le_mul (by omega) h1
    exact Nat.lt_of_le_of_lt h2 (by decide))
  have hgt : (FloatKind.f32.format.order (w32 neg (M * 10 ^ j) 1) 1259902592 == some Ordering.gt) = (!neg) := by
    obtain ⟨N', h1, h2⟩ := hN
    have := gt32 h2
    rw [decide_eq_true h1, Bool.and_true] at this
    exact this
  have hlt : (FloatKind.f32.format.order (w32 neg (M * 10 ^ j) 1) 3407386240 == some Ordering.lt) = neg := by
    obtain ⟨N', h1, h2⟩ := hN
    have := lt32 h2
    rw [decide_eq_true h1, Bool.and_true] at this
    exact this
  clear hN
  have HP := Lib.hid (fun w => pow32_any j w (by omega))
  have hsub : IntKind.i64.wrap ((j : Int) + 10 - 10) = (j : Int) := by rw [IntWalk.i64_in _ (by omega)]; omega
  clear hM1
  generalize w32 neg (M * 10 ^ j) 1 = R at *
  generalize w32 false (10 ^ j) 1 = T1 at *
  cases neg
  all_goals
    simp only [Bool.not_false, Bool.not_true] at hgt hlt
    go_enter Try.func65, Try.ntmps65
    go_wp2_with fail
    refine (HP.out _).mono ?_
    rintro e w2 ⟨rfl, hb2⟩
    go_wp2_with fail
    exact bodyPost_ret (v := .tuple #[.float .f32 R, .bool false]) (by simp [results, Try.results65, go_sem]) rfl (ex32_no (HB.out.trans (hb2.mono HB.out.size)) (.inl (by omega)))

theorem ex32_any (M : Nat) (x : Int) (neg : Bool) (w : World) (hM : M < 18446744073709551616) (h0 : -500 < x) (h1 : x < 500) : Calls Try.prog 65 #[.int .u64 M, .int .i64 x, .bool neg] w (Ex32 M x neg w) := by
  by_cases hb : 8388608 ≤ M
  · exact ex32_big M x hb hM neg w
  · rcases Int.lt_trichotomy x 0 with hx | rfl | hx
    · by_cases hl : x < -10
      · exact ex32_low M x (by omega) hl h0 neg w
      · obtain ⟨k, rfl⟩ : ∃ k : Nat, x = -(k : Int) := ⟨(-x).toNat, by omega⟩
        exact ex32_quo M k (by omega) (by omega) (by omega) neg w
    · exact ex32_zero M (by omega) neg w
    · by_cases hh : 17 < x
      · exact ex32_high M x (by omega) hh h1 neg w
      · by_cases hm : x ≤ 10
        · obtain ⟨k, rfl⟩ : ∃ k : Nat, x = (k : Int) := ⟨x.toNat, by omega⟩
          by_cases hl : M ≤ 10 ^ 7
          · exact ex32_mul M k (by omega) hl (by omega) (by omega) neg w
          · exact ex32_over M k (by omega) (by omega) (by omega) (by omega) neg w
        · obtain ⟨j, rfl⟩ : ∃ j : Nat, x = (j : Int) + 10 := ⟨(x - 10).toNat, by omega⟩
          by_cases hl : M * 10 ^ j ≤ 10 ^ 7
          · exact ex32_far M j (by omega) hl (by omega) (by omega) neg w
          · exact ex32_farover M j (by omega) (by omega) (by omega) (by omega) neg w
theorem ex32_gs (M : Nat) (x : Int) (neg : Bool) (w : World) (hM : M < 18446744073709551616) (h0 : -500 < x) (h1 : x < 500) : Calls Try.prog 52 #[.int .u64 M, .int .i64 x, .bool neg] w (Ex32 M x neg w) := by
  go_enter Try.func52, Try.ntmps52
  go_wp2_with fail
  refine (ex32_any M x neg _ hM h0 h1).mono ?_
  rintro e w' ⟨hb, b, ok, rfl, h2, h3⟩
  go_wp2_with fail
  exact bodyPost_ret (v := .tuple #[.float .f32 b, .bool ok]) (by simp [results, Try.results52, go_sem]) rfl ⟨hb, b, ok, rfl, h2, h3⟩
theorem ex32_out (M : Nat) (x : Int) (neg : Bool) (w : World) (hM : M < 18446744073709551616) (h0 : -500 < x) (h1 : x < 500) : Calls Try.prog 30 #[.int .u64 M, .int .i64 x, .bool neg] w (Ex32 M x neg w) := by
  go_enter Try.func30, Try.ntmps30
  go_wp2_with fail
  refine (ex32_gs M x neg _ hM h0 h1).mono ?_
  rintro e w' ⟨hb, b, ok, rfl, h2, h3⟩
  go_wp2_with fail
  exact bodyPost_ret (v := .tuple #[.float .f32 b, .bool ok]) (by simp [results, Try.results30, go_sem]) rfl ⟨hb, b, ok, rfl, h2, h3⟩
end Go.Proofs.Ytfkhingkmfapbaa
