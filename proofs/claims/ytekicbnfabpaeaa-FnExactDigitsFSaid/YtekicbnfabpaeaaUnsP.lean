/- Plain facts on unrounded numbers (a number, a half bit, a bit that tells whether there is more): no program is in sight. -/
import Derived.WalkKit
import Derived.Laws.BitsAllLaws
import Derived.Deep.QuietTactic
namespace Go.Proofs.Ytekicbnfabpaeaa
open Go.RowKit

def b2 (b : Bool) : Int := if b then 1 else 0
theorem b2_nat (b : Bool) : b2 b = ((if b then 1 else 0 : Nat) : Int) := by cases b <;> rfl
theorem ret_int {k : IntKind} {a b : Int} (h : a = b) : Ending.returned (.int k a) = .returned (.int k b) := by rw [h]

/-- u by 2 to the power of k, unrounded -/
def rshN (u k : Nat) : Nat := 2 * (u / 2 / 2 ^ k) + (if u % 2 = 1 ∨ 0 < u / 2 % 2 ^ k then 1 else 0)
/-- u by d, unrounded -/
def divN (u d : Nat) : Nat := 2 * (u / 2 / d) + (if u % 2 = 1 ∨ 0 < u / 2 % d then 1 else 0)
theorem rsh_div (u k : Nat) : rshN u k = divN u (2 ^ k) := rfl

theorem or_one (a : Nat) : a ||| 1 = 2 * (a / 2) + 1 := by
  have h1 : (a ||| 1) / 2 = a / 2 := by rw [Nat.or_div_two]; simp
  have h2 : (a ||| 1) % 2 = 1 := by
    have := Nat.or_mod_two_pow (a := a) (b := 1) (n := 1)
    simp at this
    rcases Nat.mod_two_eq_zero_or_one a with h | h <;> rw [h] at this <;> simp [this]
  omega
theorem or_bit (a b : Nat) (hb : b ≤ 1) : a ||| b = 2 * (a / 2) + (if a % 2 = 1 ∨ b = 1 then 1 else 0) := by
  rcases Nat.lt_or_ge b 1 with h | h
  · have : b = 0 := by omega
    subst this
    rw [Nat.or_zero]
    split <;> omega
  · have : b = 1 := by omega
    subst this
    rw [or_one, if_pos (.inr rfl)]

theorem div_core (u d : Nat) (hd : 0 < d) : ((u / d ||| u % 2) ||| (if u % d ≠ 0 then 1 else 0)) = divN u d := by
  have e2 : u / d / 2 = u / 2 / d := by rw [Nat.div_div_eq_div_mul, Nat.div_div_eq_div_mul, Nat.mul_comm]
  have h1 := Nat.div_add_mod u d
  have h2 := Nat.mod_lt u hd
  have h3 := Nat.div_add_mod (u / 2) d
  have h4 := Nat.mod_lt (u / 2) hd
  rw [or_bit (u / d) (u % 2) (by omega)]
  rw [or_bit _ _ (by split <;> omega)]
  unfold divN
  generalize hs : (if u / d % 2 = 1 ∨ u % 2 = 1 then 1 else 0) = s
  have hs1 : s ≤ 1 := by rw [← hs]; split <;> omega
  have e3 : (2 * (u / d / 2) + s) / 2 = u / 2 / d := by rw [← e2]; omega
  have e4 : (2 * (u / d / 2) + s) % 2 = s := by omega
  rw [e3, e4]
  congr 1
  -- when is there anything below
  have key : (s = 1 ∨ (if u % d ≠ 0 then 1 else 0) = 1) ↔ (u % 2 = 1 ∨ 0 < u / 2 % d) := by
    have es : s = 1 ↔ (u / d % 2 = 1 ∨ u % 2 = 1) := by rw [← hs]; split <;> simp_all
    have er : (if u % d ≠ 0 then 1 else 0) = 1 ↔ u % d ≠ 0 := by split <;> simp_all
    rw [es, er]
    by_cases hp : u % 2 = 1
    · simp [hp]
    · have hu : u = 2 * (u / 2) := by omega
      generalize hq : u / 2 / d = q at *
      generalize hr : u / 2 % d = r at *
      generalize hQ : u / d = Q at *
      generalize hR : u % d = R at *
      constructor
      · intro h
        right
        rcases Nat.eq_zero_or_pos r with h0 | h0
        · exfalso
          have hu2 : u = d * (2 * q) := by rw [hu, ← h3, h0, Nat.add_zero, ← Nat.mul_assoc, Nat.mul_comm 2 d, Nat.mul_assoc]
          have hR0 : R = 0 := by rw [← hR, hu2]; exact Nat.mul_mod_right _ _
          have hQ0 : Q = 2 * q := by rw [← hQ, hu2]; exact Nat.mul_div_cancel_left _ hd
          omega
        · exact h0
      · intro h
        have hr0 : 0 < r := by omega
        by_cases hR0 : R = 0
        · left; left
          have hk : d * Q = 2 * (d * q + r) := by omega
          by_cases hQ2 : Q % 2 = 1
          · exact hQ2
          · exfalso
            have : Q = 2 * (Q / 2) := by omega
            have hQ3 : Q / 2 = q := e2
            rw [this, hQ3, ← Nat.mul_assoc, Nat.mul_comm d 2, Nat.mul_assoc] at hk
            omega
        · exact .inr hR0
  by_cases hc : u % 2 = 1 ∨ 0 < u / 2 % d
  · rw [if_pos (key.2 hc), if_pos hc]
  · rw [if_neg (fun h => hc (key.1 h)), if_neg hc]

theorem divN_lt (u d : Nat) (hu : u < 18446744073709551616) : divN u d < 18446744073709551616 := by
  unfold divN
  have : u / 2 / d ≤ u / 2 := Nat.div_le_self _ _
  split <;> omega

theorem pow_lt_64 {k : Nat} (hk : k < 64) : 2 ^ k < 18446744073709551616 := by
  have : (2 : Nat) ^ k < 2 ^ 64 := Nat.pow_lt_pow_right (by omega) hk
  simpa using this
theorem wrap_pow {k : Nat} (hk : k < 64) : IntKind.u64.wrap (2 ^ k) = ((2 ^ k : Nat) : Int) := by
  have := pow_lt_64 hk
  have e : (2 : Int) ^ k = ((2 ^ k : Nat) : Int) := by simp
  rw [e]
  generalize 2 ^ k = x at *
  rw [IntWalk.u64_in _ ⟨by omega, by omega⟩]
theorem wrap_pred {k : Nat} (hk : k < 64) : IntKind.u64.wrap (IntKind.u64.wrap (2 ^ k) - 1) = ((2 ^ k - 1 : Nat) : Int) := by
  have := pow_lt_64 hk
  have hp : 0 < 2 ^ k := Nat.two_pow_pos k
  rw [wrap_pow hk]
  generalize 2 ^ k = x at *
  rw [IntWalk.u64_in _ ⟨by omega, by omega⟩]
  omega
theorem and_pred (u k : Nat) : u &&& (2 ^ k - 1) = u % 2 ^ k := Nat.and_two_pow_sub_one_eq_mod u k

theorem rsh_val (u k : Nat) (hu : u < 18446744073709551616) (hk : k < 64) :
    bits .or .u64 (bits .or .u64 ((u : Int) / 2 ^ k) (bits .and .u64 (u : Int) 1)) (b2 (bits .and .u64 (u : Int) (IntKind.u64.wrap (IntKind.u64.wrap (2 ^ k) - 1)) != 0)) = (rshN u k : Int) := by
  have hp := pow_lt_64 hk
  have hp0 : 0 < 2 ^ k := Nat.two_pow_pos k
  have e1 : (u : Int) / 2 ^ k = ((u / 2 ^ k : Nat) : Int) := by simp
  have e2 : bits .and .u64 (u : Int) 1 = ((u % 2 : Nat) : Int) := by
    rw [show (1 : Int) = ((1 : Nat) : Int) from rfl, u64_and_nat u 1 hu (by omega), nat_mask1]
  have e3 : bits .and .u64 (u : Int) (IntKind.u64.wrap (IntKind.u64.wrap (2 ^ k) - 1)) = ((u % 2 ^ k : Nat) : Int) := by
    rw [wrap_pred hk, u64_and_nat u _ hu (by omega), and_pred]
  have hd : u / 2 ^ k ≤ u := Nat.div_le_self _ _
  rw [e1, e2, e3, u64_or_nat _ _ (by omega) (by omega)]
  have e4 : b2 (((u % 2 ^ k : Nat) : Int) != 0) = ((if u % 2 ^ k ≠ 0 then 1 else 0 : Nat) : Int) := by
    unfold b2
    by_cases h : u % 2 ^ k = 0
    · rw [if_neg (by simp [h]), if_neg (by simp [h])]; rfl
    · have hb : (((u % 2 ^ k : Nat) : Int) != 0) = true := by rw [bne_iff_ne]; omega
      rw [hb, if_pos rfl, if_pos h]; rfl
  have hor : u / 2 ^ k ||| u % 2 < 2 ^ 64 := Nat.or_lt_two_pow (by omega) (by omega)
  rw [e4, u64_or_nat _ _ (by omega) (by split <;> omega), div_core u (2 ^ k) hp0]
  rfl

theorem div_val (u d : Nat) (hu : u < 18446744073709551616) (hd0 : 0 < d) :
    bits .or .u64 (bits .or .u64 (IntKind.u64.wrap ((u : Int) / (d : Int))) (bits .and .u64 (u : Int) 1)) (b2 ((u : Int) % (d : Int) != 0)) = (divN u d : Int) := by
  have e1 : (u : Int) / (d : Int) = ((u / d : Nat) : Int) := by simp
  have e3 : (u : Int) % (d : Int) = ((u % d : Nat) : Int) := by simp
  have e2 : bits .and .u64 (u : Int) 1 = ((u % 2 : Nat) : Int) := by
    rw [show (1 : Int) = ((1 : Nat) : Int) from rfl, u64_and_nat u 1 hu (by omega), nat_mask1]
  have hd' : u / d ≤ u := Nat.div_le_self _ _
  have e0 : IntKind.u64.wrap ((u / d : Nat) : Int) = ((u / d : Nat) : Int) := by
    generalize u / d = x at *
    exact IntWalk.u64_in _ ⟨by omega, by omega⟩
  rw [e1, e2, e3, e0, u64_or_nat _ _ (by omega) (by omega)]
  have e4 : b2 (((u % d : Nat) : Int) != 0) = ((if u % d ≠ 0 then 1 else 0 : Nat) : Int) := by
    unfold b2
    by_cases h : u % d = 0
    · rw [if_neg (by simp [h]), if_neg (by simp [h])]; rfl
    · have hb : (((u % d : Nat) : Int) != 0) = true := by rw [bne_iff_ne]; omega
      rw [hb, if_pos rfl, if_pos h]; rfl
  have hor : u / d ||| u % 2 < 2 ^ 64 := Nat.or_lt_two_pow (by omega) (by omega)
  rw [e4, u64_or_nat _ _ (by omega) (by split <;> omega), div_core u d hd0]

/-- a quiet callee that leaves the world as it was, inside a region that draws -/
theorem hush {P : Program} {f : FuncId} {args : Array Value} {w : World} {n : Nat} {v : Value} (h : Calls P f args (w.drewN n) fun e w' => e = .returned v ∧ w.drewN n = w') :
    Calls P f args (w.drewN n) fun e w'' => e = .returned v ∧ ∃ m, w'' = w.drewN m := h.mono fun _ _ ⟨he, hm⟩ => ⟨he, n, hm.symm⟩
end Go.Proofs.Ytekicbnfabpaeaa
