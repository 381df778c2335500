/- The two logarithms of the package by their numbers: for each exponent that the laws speak of, checked by computation. No program is in sight. -/
import Derived.Test.YtekicbnfabpaeaaNum
namespace Go.Proofs.Ytekicbnfabpaeaa

/-- x times the decimal logarithm of 2, rounded down -/
def lg10 (x : Int) : Int := x * 78913 / 262144
/-- x times the binary logarithm of 10, rounded down -/
def lg2 (x : Int) : Int := x * 108853 / 32768

def chk10 (n : Nat) : Bool :=
  let x : Int := (n : Int) - 1074
  let r := lg10 x
  decide (-400 ≤ r) && decide (r ≤ 400) && Nat.ble (10 ^ r.toNat * 2 ^ (-x).toNat) (2 ^ x.toNat * 10 ^ (-r).toNat) && Nat.blt (2 ^ x.toNat * 10 ^ (-(r + 1)).toNat) (10 ^ (r + 1).toNat * 2 ^ (-x).toNat)
def chk2 (n : Nat) : Bool :=
  let x : Int := (n : Int) - 348
  let r := lg2 x
  decide (-2000 ≤ r) && decide (r ≤ 2000) && Nat.ble (2 ^ r.toNat * 10 ^ (-x).toNat) (10 ^ x.toNat * 2 ^ (-r).toNat) && Nat.blt (10 ^ x.toNat * 2 ^ (-(r + 1)).toNat) (2 ^ (r + 1).toNat * 10 ^ (-x).toNat)
theorem all10 : (List.range 2098).all chk10 = true := by decide +kernel
theorem all2 : (List.range 696).all chk2 = true := by decide +kernel

theorem lg10_good {x : Int} (h0 : -1074 ≤ x) (h1 : x ≤ 1023) :
    -400 ≤ lg10 x ∧ lg10 x ≤ 400 ∧ 10 ^ (lg10 x).toNat * 2 ^ (-x).toNat ≤ 2 ^ x.toNat * 10 ^ (-(lg10 x)).toNat ∧ 2 ^ x.toNat * 10 ^ (-(lg10 x + 1)).toNat < 10 ^ (lg10 x + 1).toNat * 2 ^ (-x).toNat := by
  have h := List.all_eq_true.1 all10 (x + 1074).toNat (by rw [List.mem_range]; omega)
  unfold chk10 at h
  have e : (((x + 1074).toNat : Nat) : Int) - 1074 = x := by omega
  simp only [e, Bool.and_eq_true, decide_eq_true_eq] at h
  obtain ⟨⟨⟨a, b⟩, c⟩, d⟩ := h
  refine ⟨a, b, Nat.le_of_ble_eq_true c, ?_⟩
  unfold Nat.blt at d
  exact Nat.le_of_ble_eq_true d
theorem lg2_good {x : Int} (h0 : -348 ≤ x) (h1 : x ≤ 347) :
    -2000 ≤ lg2 x ∧ lg2 x ≤ 2000 ∧ 2 ^ (lg2 x).toNat * 10 ^ (-x).toNat ≤ 10 ^ x.toNat * 2 ^ (-(lg2 x)).toNat ∧ 10 ^ x.toNat * 2 ^ (-(lg2 x + 1)).toNat < 2 ^ (lg2 x + 1).toNat * 10 ^ (-x).toNat := by
  have h := List.all_eq_true.1 all2 (x + 348).toNat (by rw [List.mem_range]; omega)
  unfold chk2 at h
  have e : (((x + 348).toNat : Nat) : Int) - 348 = x := by omega
  simp only [e, Bool.and_eq_true, decide_eq_true_eq] at h
  obtain ⟨⟨⟨a, b⟩, c⟩, d⟩ := h
  refine ⟨a, b, Nat.le_of_ble_eq_true c, ?_⟩
  unfold Nat.blt at d
  exact Nat.le_of_ble_eq_true d
end Go.Proofs.Ytekicbnfabpaeaa
