/- AssignDecimal and the walk of FnExactAssign: the law returns true. -/
import Derived.Test.YtekicbnfabpaeaaDecS
import Derived.OpenShut
import Derived.Deep.RegionWith
namespace Go.Proofs.Ytekicbnfabpaeaa
open Go.RowKit

theorem take_cut0 (D : List Nat) (n : Nat) (hn : n ≤ D.length) : D.take (cut0 D n) = tailL (D.take n) := by
  induction n with
  | zero => simp [cut0, tailL, headL]
  | succ k ih =>
    have hl : (D.take (k + 1)).length = k + 1 := by simp; omega
    have hlast : nth (D.take (k + 1)) ((D.take (k + 1)).length - 1) = nth D k := by
      rw [hl]; simp [nth, List.getD_eq_getElem?_getD]
    rw [cut0]
    by_cases h : nth D k = 48
    · rw [if_pos h, ih (by omega), tailL_hit (m := D.take (k + 1)) (by omega) (by rw [hlast]; exact h), hl]
      congr 1
      rw [Nat.add_sub_cancel, List.take_take]
      congr 1
      omega
    · rw [if_neg h, tailL_miss (m := D.take (k + 1)) (by omega) (by rw [hlast]; exact h)]
theorem nth_append_left {a b : List Nat} {i : Nat} (h : i < a.length) : nth (a ++ b) i = nth a i := by
  simp [nth, List.getD_eq_getElem?_getD, List.getElem?_append_left h]
theorem decL_first {V : Nat} (h : V ≠ 0) : nth (decL V) 0 ≠ 48 := by
  induction V using Nat.strongRecOn with
  | _ V ih =>
    by_cases h10 : V < 10
    · rw [decL_small h10]; simp [nth]; omega
    · rw [decL_big h10, nth_append_left (decL_len_pos _)]
      exact ih _ (by omega) (by omega)
theorem headL_dec {V : Nat} (h : V ≠ 0) : headL (decL V) = decL V := headL_miss (decL_len_pos V) (decL_first h)
theorem cut0_pos {D : List Nat} {n : Nat} (h0 : nth D 0 ≠ 48) (hn : n ≠ 0) : cut0 D n ≠ 0 := by
  induction n with
  | zero => exact absurd rfl hn
  | succ k ih =>
    rw [cut0]
    by_cases h : nth D k = 48
    · rw [if_pos h]
      apply ih
      rintro rfl
      exact h0 h
    · rw [if_neg h]; omega

/-- the digits and the point of a whole number -/
def asgDigits (V : Nat) : List Nat := tailL (lowD V).reverse
def asgPoint (V : Nat) : Int := if V = 0 then 0 else ((decL V).length : Int)
theorem asg_of {D : List Nat} {V : Nat} (hD : D.length = 800) (hV : V < 18446744073709551616) (h : D.take (lowD V).length = (lowD V).reverse) :
    D.take (cut0 D (lowD V).length) = asgDigits V ∧ dpz (cut0 D (lowD V).length) (lowD V).length = asgPoint V := by
  have hN : (lowD V).length ≤ 20 := lowD_len (by omega)
  refine ⟨by rw [take_cut0 D _ (by omega), h]; rfl, ?_⟩
  unfold asgPoint
  by_cases h0 : V = 0
  · subst h0; rw [if_pos rfl, lowD_zero]; rfl
  · have hl : (lowD V).length = (decL V).length := by rw [← lowD_dec h0, List.length_reverse]
    have hp := decL_len_pos V
    have hf : nth D 0 ≠ 48 := by
      have e : nth D 0 = nth (D.take (lowD V).length) 0 := by
        simp [nth, List.getD_eq_getElem?_getD, show 0 < (lowD V).length by omega]
      rw [e, h, lowD_dec h0]
      exact decL_first h0
    rw [if_neg h0, dpz_pos (cut0_pos hf (by omega)), hl]
theorem asg_bytes (V : Nat) (hV : V < 18446744073709551616) : (asgDigits V).length ≤ 20 := by
  have hN : (lowD V).length ≤ 20 := lowD_len (by omega)
  have h := take_cut0 (lowD V).reverse (lowD V).length (by simp)
  have h' : (lowD V).reverse.take (lowD V).length = (lowD V).reverse := List.take_of_length_le (by simp)
  rw [h'] at h
  unfold asgDigits
  rw [← h, List.length_take, List.length_reverse]
  omega

set_option maxHeartbeats 1000000 in
theorem assignDecimal_any (V : Nat) (w : World) (hV : V < 18446744073709551616) :
    Calls Try.prog 49 #[.int .u64 V] w fun e w' => e = .returned (.agg #[.string (bs (asgDigits V)), .int .i64 (asgPoint V), .bool false, .bool false]) ∧ Below w.heap.size w w' := by
  go_enter Try.func49, Try.ntmps49
  go_wp2_with fail
  have D0 := DecBox.new (w.alloc (.cells #[.string ⟨#[]⟩, .int .i64 0, .bool false, .bool false] 69))
  have B0 := (Box.new w 69 #[.string ⟨#[]⟩, .int .i64 0, .bool false, .bool false]).alloc (.cells Try.zeroCells80 80)
  have L0 := (below_new w (.cells #[.string ⟨#[]⟩, .int .i64 0, .bool false, .bool false] 69)).alloc (by simp) (.cells Try.zeroCells80 80)
  rw [show (w.alloc (.cells #[.string ⟨#[]⟩, .int .i64 0, .bool false, .bool false] 69)).heap.size = w.heap.size + 1 from by simp] at D0
  generalize (w.alloc (.cells #[.string ⟨#[]⟩, .int .i64 0, .bool false, .bool false] 69)).alloc (.cells Try.zeroCells80 80) = W at *
  have HD := Lib.hid D0
  have HB := Lib.hid B0
  have HL := Lib.hid L0
  clear D0 B0 L0
  refine (assign_any _ _ _ _ _ _ V _ HD.out hV).mono ?_
  rintro e w1 ⟨D, ht, rfl, hm, ho⟩
  obtain ⟨a1, a2⟩ := asg_of hm.1 hV ht
  rw [a2] at hm
  have HC := Lib.hid (show cut0 D (lowD V).length ≤ 800 by have h1 := cut0_le D (lowD V).length; have h2 : (lowD V).length ≤ 20 := lowD_len (by omega); omega)
  have HM := Lib.hid hm
  have HO := Lib.hid ho
  have HT := Lib.hid a1
  clear hm ho ht a1 a2
  go_wp2_with fail
  refine (toDecimal_any _ D (cut0 D (lowD V).length) _ _ _ _ HM.out HC.out).mono ?_
  rintro e w2 ⟨rfl, hb2⟩
  rw [HT.out]
  have ob : Only (w.heap.size + 1) W w2 := HO.out.trans (Only.of_below hb2)
  have K0 : Box w2 69 w.heap.size #[.string ⟨#[]⟩, .int .i64 0, .bool false, .bool false] := (ob.block w.heap.size HB.out.lt (by simp)).trans HB.out
  have L3 : Below w.heap.size w w2 := HL.out.trans (ob.below (by omega) (by have := HL.out.size; omega))
  have r0 : w2.cell? ⟨w.heap.size, 0, none⟩ = some (.string ⟨#[]⟩) := by rw [K0.cell 0]; rfl
  have r1 : w2.cell? ⟨w.heap.size, 1, none⟩ = some (.int .i64 0) := by rw [K0.cell 1]; rfl
  have r2 : w2.cell? ⟨w.heap.size, 2, none⟩ = some (.bool false) := by rw [K0.cell 2]; rfl
  have r3 : w2.cell? ⟨w.heap.size, 3, none⟩ = some (.bool false) := by rw [K0.cell 3]; rfl
  have f0 : w2.frozen? ⟨w.heap.size, 0, none⟩ = false := K0.frozen 0
  have f1 : w2.frozen? ⟨w.heap.size, 1, none⟩ = false := K0.frozen 1
  have f2 : w2.frozen? ⟨w.heap.size, 2, none⟩ = false := K0.frozen 2
  have f3 : w2.frozen? ⟨w.heap.size, 3, none⟩ = false := K0.frozen 3
  have HK0 := Lib.hid K0
  have HL3 := Lib.hid L3
  clear K0 L3 ob hb2
  go_wp2_with fail
  have b1 := HK0.out.set 0 (.string (bs (asgDigits V)))
  have b2 := b1.set 1 (.int .i64 (asgPoint V))
  have b3 := b2.set 2 (.bool false)
  have b4 := b3.set 3 (.bool false)
  have q0 : (w2.setCell ⟨w.heap.size, 0, none⟩ (.string (bs (asgDigits V)))).cell? ⟨w.heap.size, 0, none⟩ = some (.string (bs (asgDigits V))) := by rw [b1.cell 0]; rfl
  have q1 : ((w2.setCell ⟨w.heap.size, 0, none⟩ (.string (bs (asgDigits V)))).setCell ⟨w.heap.size, 1, none⟩ (.int .i64 (asgPoint V))).cell? ⟨w.heap.size, 1, none⟩ = some (.int .i64 (asgPoint V)) := by rw [b2.cell 1]; rfl
  have q2 : (((w2.setCell ⟨w.heap.size, 0, none⟩ (.string (bs (asgDigits V)))).setCell ⟨w.heap.size, 1, none⟩ (.int .i64 (asgPoint V))).setCell ⟨w.heap.size, 2, none⟩ (.bool false)).cell? ⟨w.heap.size, 2, none⟩ = some (.bool false) := by rw [b3.cell 2]; rfl
  have q3 : ((((w2.setCell ⟨w.heap.size, 0, none⟩ (.string (bs (asgDigits V)))).setCell ⟨w.heap.size, 1, none⟩ (.int .i64 (asgPoint V))).setCell ⟨w.heap.size, 2, none⟩ (.bool false)).setCell ⟨w.heap.size, 3, none⟩ (.bool false)).cell? ⟨w.heap.size, 3, none⟩ = some (.bool false) := by rw [b4.cell 3]; rfl
  have L4 := (((HL3.out.setCell (p := ⟨w.heap.size, 0, none⟩) (Nat.le_refl _) (.string (bs (asgDigits V)))).setCell (p := ⟨w.heap.size, 1, none⟩) (Nat.le_refl _) (.int .i64 (asgPoint V))).setCell (p := ⟨w.heap.size, 2, none⟩) (Nat.le_refl _) (.bool false)).setCell (p := ⟨w.heap.size, 3, none⟩) (Nat.le_refl _) (.bool false)
  exact bodyPost_ret (v := .agg #[.string (bs (asgDigits V)), .int .i64 (asgPoint V), .bool false, .bool false]) (by simp [results, Try.results49, go_sem, q0, q1, q2, q3]) rfl ⟨rfl, L4⟩

set_option maxHeartbeats 1000000 in
theorem assignDecimal_out (V : Nat) (w : World) (hV : V < 18446744073709551616) :
    Calls Try.prog 32 #[.int .u64 V] w fun e w' => e = .returned (.agg #[.string (bs (asgDigits V)), .int .i64 (asgPoint V), .bool false, .bool false]) ∧ Below w.heap.size w w' := by
  go_enter Try.func32, Try.ntmps32
  go_wp2_with fail
  refine (assignDecimal_any V _ hV).mono ?_
  rintro e w2 ⟨rfl, hb2⟩
  have K0 : Box w2 57 w.heap.size #[.string ⟨#[]⟩, .int .i64 0, .bool false, .bool false] := (Box.new w _ _).later hb2 (by simp)
  have L3 : Below w.heap.size w w2 := (below_new w _).trans (hb2.mono (by simp))
  have r0 : w2.cell? ⟨w.heap.size, 0, none⟩ = some (.string ⟨#[]⟩) := by rw [K0.cell 0]; rfl
  have r1 : w2.cell? ⟨w.heap.size, 1, none⟩ = some (.int .i64 0) := by rw [K0.cell 1]; rfl
  have r2 : w2.cell? ⟨w.heap.size, 2, none⟩ = some (.bool false) := by rw [K0.cell 2]; rfl
  have r3 : w2.cell? ⟨w.heap.size, 3, none⟩ = some (.bool false) := by rw [K0.cell 3]; rfl
  have f0 : w2.frozen? ⟨w.heap.size, 0, none⟩ = false := K0.frozen 0
  have f1 : w2.frozen? ⟨w.heap.size, 1, none⟩ = false := K0.frozen 1
  have f2 : w2.frozen? ⟨w.heap.size, 2, none⟩ = false := K0.frozen 2
  have f3 : w2.frozen? ⟨w.heap.size, 3, none⟩ = false := K0.frozen 3
  have HK0 := Lib.hid K0
  have HL3 := Lib.hid L3
  clear K0 L3 hb2
  go_wp2_with fail
  have b1 := HK0.out.set 0 (.string (bs (asgDigits V)))
  have b2 := b1.set 1 (.int .i64 (asgPoint V))
  have b3 := b2.set 2 (.bool false)
  have b4 := b3.set 3 (.bool false)
  have q0 : (w2.setCell ⟨w.heap.size, 0, none⟩ (.string (bs (asgDigits V)))).cell? ⟨w.heap.size, 0, none⟩ = some (.string (bs (asgDigits V))) := by rw [b1.cell 0]; rfl
  have q1 : ((w2.setCell ⟨w.heap.size, 0, none⟩ (.string (bs (asgDigits V)))).setCell ⟨w.heap.size, 1, none⟩ (.int .i64 (asgPoint V))).cell? ⟨w.heap.size, 1, none⟩ = some (.int .i64 (asgPoint V)) := by rw [b2.cell 1]; rfl
  have q2 : (((w2.setCell ⟨w.heap.size, 0, none⟩ (.string (bs (asgDigits V)))).setCell ⟨w.heap.size, 1, none⟩ (.int .i64 (asgPoint V))).setCell ⟨w.heap.size, 2, none⟩ (.bool false)).cell? ⟨w.heap.size, 2, none⟩ = some (.bool false) := by rw [b3.cell 2]; rfl
  have q3 : ((((w2.setCell ⟨w.heap.size, 0, none⟩ (.string (bs (asgDigits V)))).setCell ⟨w.heap.size, 1, none⟩ (.int .i64 (asgPoint V))).setCell ⟨w.heap.size, 2, none⟩ (.bool false)).setCell ⟨w.heap.size, 3, none⟩ (.bool false)).cell? ⟨w.heap.size, 3, none⟩ = some (.bool false) := by rw [b4.cell 3]; rfl
  have L4 := (((HL3.out.setCell (p := ⟨w.heap.size, 0, none⟩) (Nat.le_refl _) (.string (bs (asgDigits V)))).setCell (p := ⟨w.heap.size, 1, none⟩) (Nat.le_refl _) (.int .i64 (asgPoint V))).setCell (p := ⟨w.heap.size, 2, none⟩) (Nat.le_refl _) (.bool false)).setCell (p := ⟨w.heap.size, 3, none⟩) (Nat.le_refl _) (.bool false)
  exact bodyPost_ret (v := .agg #[.string (bs (asgDigits V)), .int .i64 (asgPoint V), .bool false, .bool false]) (by simp [results, Try.results32, go_sem, q0, q1, q2, q3]) rfl ⟨rfl, L4⟩

theorem asg_tail (V : Nat) : asgDigits V = tailL (headL (decL V)) := by
  unfold asgDigits
  by_cases h : V = 0
  · subst h; rw [lowD_zero, decL_small (by omega)]; rfl
  · rw [lowD_dec h, headL_dec h]

end Go.Proofs.Ytekicbnfabpaeaa
