/- Plain facts on what the reader of a float has made of the digits so far: the first 19 in a number, and whether others that are not 0 were left out. No function of the program is walked here. -/
import Derived.Test.YtfkhingkmfapbaaSet
namespace Go.Proofs.Ytfkhingkmfapbaa
open Go.RowKit

def rdM (H : List Nat) : Nat := valD (H.take 19)
def rdT (H : List Nat) : Bool := decide (valD (H.drop 19) ≠ 0)
theorem rdM_add {H : List Nat} {c : Nat} (h : H.length < 19) : rdM (H ++ [c]) = rdM H * 10 + (c - 48) := by
  unfold rdM
  rw [List.take_of_length_le (by simp; omega), List.take_of_length_le (by omega), valD_snoc, Nat.mul_comm]
theorem rdT_add {H : List Nat} {c : Nat} (h : H.length < 19) : rdT (H ++ [c]) = rdT H := by
  unfold rdT
  rw [List.drop_of_length_le (by simp; omega), List.drop_of_length_le (by omega)]
theorem rdM_more {H : List Nat} {c : Nat} (h : 19 ≤ H.length) : rdM (H ++ [c]) = rdM H := by
  unfold rdM
  rw [List.take_append_of_le_length h]
theorem rdT_more {H : List Nat} {c : Nat} (h : 19 ≤ H.length) : rdT (H ++ [c]) = (rdT H || decide (c - 48 ≠ 0)) := by
  unfold rdT
  rw [List.drop_append_of_le_length h, valD_snoc]
  by_cases h1 : valD (H.drop 19) = 0
  · simp [h1]
  · have : 10 * valD (H.drop 19) + (c - 48) ≠ 0 := by omega
    rw [decide_eq_true this, decide_eq_true h1]; rfl
theorem rdM_lt {H : List Nat} (hd : Digs H) {n : Nat} (h : min H.length 19 ≤ n) : rdM H < 10 ^ n :=
  valD_small (fun y hy => hd y (List.mem_of_mem_take hy)) (by simp; omega)
theorem headL_digs' {l : List Nat} (h : Digs l) : Digs (headL l) := by
  induction l with
  | nil => exact h
  | cons c r ih =>
    unfold headL
    split
    · exact ih (fun x hx => h x (List.mem_cons_of_mem _ hx))
    · exact h

/-- the reader's state: the digits X are read, the point counts from dt on -/
structure RdS (X : List Nat) (dt : Int) (m nd nm : Nat) (tr : Bool) (dp : Int) : Prop where
  digs : Digs X
  em : m = rdM (headL X)
  en : nd = (headL X).length
  ek : nm = min nd 19
  et : tr = rdT (headL X)
  ed : dp = dt - ((X.length : Int) - (nd : Int))
theorem RdS.nil : RdS [] 0 0 0 0 false 0 := ⟨fun y hy => by simp at hy, rfl, rfl, rfl, rfl, rfl⟩
theorem digs_snoc {X : List Nat} {c : Nat} (h : Digs X) (h1 : 48 ≤ c) (h2 : c ≤ 57) : Digs (X ++ [c]) := digs_append h (fun y hy => by simp at hy; omega)
theorem RdS.zero {X : List Nat} {dt : Int} {m nd nm : Nat} {tr : Bool} {dp : Int} (h : RdS X dt m nd nm tr dp) (h0 : nd = 0) : RdS (X ++ [48]) dt m nd nm tr (dp - 1) := by
  have e : headL (X ++ [48]) = headL X := by
    rw [headL_snoc0 (by rw [← h.en]; exact h0)]
    exact (List.eq_nil_of_length_eq_zero (by rw [← h.en]; exact h0)).symm
  refine ⟨digs_snoc h.digs (by omega) (by omega), by rw [e]; exact h.em, by rw [e]; exact h.en, h.ek, by rw [e]; exact h.et, ?_⟩
  have := h.ed
  simp
  omega
theorem RdS.small {X : List Nat} {dt : Int} {m nd nm c : Nat} {tr : Bool} {dp : Int} (h : RdS X dt m nd nm tr dp) (h0 : ¬ (nd = 0 ∧ c = 48)) (h1 : nd < 19) (c1 : 48 ≤ c) (c2 : c ≤ 57) : RdS (X ++ [c]) dt (m * 10 + (c - 48)) (nd + 1) (nm + 1) tr dp := by
  have e : headL (X ++ [c]) = headL X ++ [c] := headL_snoc1 (by rw [← h.en]; exact h0)
  have hn := h.en
  refine ⟨digs_snoc h.digs c1 c2, by rw [e, rdM_add (by omega), ← h.em], by rw [e, List.length_append, ← hn]; rfl, by have := h.ek; omega, by rw [e, rdT_add (by omega)]; exact h.et, ?_⟩
  have := h.ed
  simp
  omega
theorem RdS.more {X : List Nat} {dt : Int} {m nd nm c : Nat} {tr : Bool} {dp : Int} (h : RdS X dt m nd nm tr dp) (h1 : 19 ≤ nd) (c1 : 48 ≤ c) (c2 : c ≤ 57) : RdS (X ++ [c]) dt m (nd + 1) nm (tr || decide (c - 48 ≠ 0)) dp := by
  have hn := h.en
  have e : headL (X ++ [c]) = headL X ++ [c] := headL_snoc1 (by omega)
  refine ⟨digs_snoc h.digs c1 c2, by rw [e, rdM_more (by omega)]; exact h.em, by rw [e, List.length_append, ← hn]; rfl, by have := h.ek; omega, by rw [e, rdT_more (by omega), ← h.et], ?_⟩
  have := h.ed
  simp
  omega
theorem RdS.dot {X : List Nat} {dt : Int} {m nd nm : Nat} {tr : Bool} {dp : Int} (h : RdS X dt m nd nm tr dp) : RdS X X.length m nd nm tr nd :=
  ⟨h.digs, h.em, h.en, h.ek, h.et, by omega⟩
theorem RdS.bound {X : List Nat} {dt : Int} {m nd nm : Nat} {tr : Bool} {dp : Int} (h : RdS X dt m nd nm tr dp) : nm ≤ 19 ∧ nm ≤ nd ∧ nd ≤ X.length ∧ m < 10000000000000000000 ∧ (nd < 19 → nm = nd ∧ m < 1000000000000000000) ∧ (19 ≤ nd → nm = 19) := by
  have hh := headL_le X
  have hn := h.en
  have hk := h.ek
  have h1 : m < 10 ^ 19 := by rw [h.em]; exact rdM_lt (headL_digs' h.digs) (by omega)
  refine ⟨by omega, by omega, by omega, h1, fun h0 => ⟨by omega, ?_⟩, fun h0 => by omega⟩
  have h2 : m < 10 ^ 18 := by rw [h.em]; exact rdM_lt (headL_digs' h.digs) (by omega)
  exact h2
/-- what the reader answers -/
def RdPost (a b : List Nat) (e : Int) (neg : Bool) (N : Nat) (w : World) (r : Ending) (w' : World) : Prop :=
  w = w' ∧ ∃ (m : Nat) (x : Int) (tr : Bool) (i : Nat) (ok : Bool), r = .returned (.tuple #[.int .u64 (m : Int), .int .i64 x, .bool neg, .bool tr, .bool false, .int .i64 (i : Int), .bool ok]) ∧ ok = decide (0 < (a ++ b).length) ∧
    (0 < (a ++ b).length → i = N ∧ m = rdM (headL (a ++ b)) ∧ tr = rdT (headL (a ++ b)) ∧ -2000 ≤ x ∧ x ≤ 2000 ∧ (m ≠ 0 → x = e - (b.length : Int) + ((headL (a ++ b)).length - (min (headL (a ++ b)).length 19 : Nat) : Int)))
end Go.Proofs.Ytfkhingkmfapbaa
