/- Text of the reference, by a contract: a decimal number as it is written. -/
import Derived.Test.YtfkhingkmfapbaaStrA
namespace Go.Proofs.Ytfkhingkmfapbaa
open Go.RowKit

/-- a sign -/
def sgL (neg : Bool) : List Nat := if neg then [45] else []
/-- the exponent's sign and digits -/
def expL (e : Int) : List Nat := (if e < 0 then [45] else []) ++ decL e.natAbs
/-- sign, digits with a point between, exponent -/
def textL (neg : Bool) (a b : List Nat) (e : Int) : List Nat := sgL neg ++ (a ++ [46] ++ b ++ [101]) ++ expL e
theorem textL_size (neg : Bool) (a b : List Nat) (e : Int) : (bs (textL neg a b e)).size = (sgL neg).length + (a.length + 1 + b.length + 1) + (expL e).length := by
  rw [bs_size]; simp [textL]; omega
theorem bs_k46 : (⟨#[46]⟩ : ByteArray) = bs [46] := rfl
theorem bs_k45 : (⟨#[45]⟩ : ByteArray) = bs [45] := rfl
theorem bs_k101 : (⟨#[101]⟩ : ByteArray) = bs [101] := rfl
theorem bs_k0 : (⟨#[]⟩ : ByteArray) = bs [] := rfl

set_option maxHeartbeats 1000000 in
set_option maxRecDepth 100000 in
theorem text_any (neg : Bool) (a b : List Nat) (e : Int) (w : World) (ha : a.length ≤ 1000) (hb : b.length ≤ 1000) (e0 : -32768 < e) (e1 : e ≤ 32767) :
    Calls Try.prog 22 #[.bool neg, .string (bs a), .string (bs b), .int .i16 e] w (GivesText (textL neg a b e) w) := by
  have hsa := bs_size a
  have hsb := bs_size b
  have k0 : (⟨#[]⟩ : ByteArray).size = 0 := rfl
  have k1 : (⟨#[46]⟩ : ByteArray).size = 1 := rfl
  have k2 : (⟨#[45]⟩ : ByteArray).size = 1 := rfl
  have k3 : (⟨#[101]⟩ : ByteArray).size = 1 := rfl
  by_cases h0 : e < 0
  · have E : Hid (expL e = [45] ++ decL (-e).toNat) := by show _ = _; unfold expL; rw [if_pos h0]; congr 2; omega
    have hd : (bs (decL (-e).toNat)).size ≤ 10 := by rw [bs_size]; exact decL_len_le (k := 9) (by omega)
    cases neg
    all_goals
      go_enter Try.func22, Try.ntmps22
      go_wp2_with fail
      refine (dec_out _ _ (by omega) (by omega)).mono ?_
      rintro x w1 ⟨rfl, hb1⟩
      have HB := Lib.hid hb1
      clear hb1
      go_wp2_with fail
      go_ret
      refine ⟨ret_text ?_, HB.out⟩
      unfold textL
      rw [E.out]
      simp only [bs_k46, bs_k45, bs_k101, bs_k0, bs_append, sgL]
      simp
  · have E : Hid (expL e = decL e.toNat) := by show _ = _; unfold expL; rw [if_neg h0]; rw [List.nil_append]; congr 1; omega
    have hd : (bs (decL e.toNat)).size ≤ 10 := by rw [bs_size]; exact decL_len_le (k := 9) (by omega)
    cases neg
    all_goals
      go_enter Try.func22, Try.ntmps22
      go_wp2_with fail
      refine (dec_out _ _ (by omega) (by omega)).mono ?_
      rintro x w1 ⟨rfl, hb1⟩
      have HB := Lib.hid hb1
      clear hb1
      go_wp2_with fail
      go_ret
      refine ⟨ret_text ?_, HB.out⟩
      unfold textL
      rw [E.out]
      simp only [bs_k46, bs_k45, bs_k101, bs_k0, bs_append, sgL]
      simp
end Go.Proofs.Ytfkhingkmfapbaa
