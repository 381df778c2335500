/- ReadFloat of the package and of the thin package, by contracts. -/
import Derived.Test.YtfkhingkmfapbaaRd
import Derived.Test.YtfkhingkmfapbaaPars
namespace Go.Proofs.Ytfkhingkmfapbaa
open Go.RowKit

theorem rd_text (a b : List Nat) (neg : Bool) (e : Int) (w : World) (ha : Digs a) (hb : Digs b) (hla : a.length ≤ 400) (hlb : b.length ≤ 400) (e0 : -1000 < e) (e1 : e < 1000) :
    Calls Try.prog 64 #[.string (bs (textL neg a b e))] w (RdPost a b e neg (textL neg a b e).length w) := by
  refine rd_any _ (sgL neg).length a b (expL e) neg e w (textL_bytes ha hb) (parts_of _ _ _ _) ?_ ha hb hla hlb (expIs_of e0 e1)
  cases neg
  · exact .inr ⟨rfl, rfl⟩
  · exact .inl ⟨rfl, rfl, rfl⟩

set_option maxHeartbeats 1000000 in
set_option maxRecDepth 100000 in
theorem rd_gs (a b : List Nat) (neg : Bool) (e : Int) (w : World) (ha : Digs a) (hb : Digs b) (hla : a.length ≤ 400) (hlb : b.length ≤ 400) (e0 : -1000 < e) (e1 : e < 1000) :
    Calls Try.prog 49 #[.string (bs (textL neg a b e))] w (RdPost a b e neg (textL neg a b e).length w) := by
  have HA := Lib.hid ha
  have HB := Lib.hid hb
  clear ha hb
  go_enter Try.func49, Try.ntmps49
  go_wp2_with fail
  refine (rd_text a b neg e _ HA.out HB.out hla hlb e0 e1).mono ?_
  rintro r w' ⟨rfl, m, x, tr, i, ok, rfl, hok, hr⟩
  have HOK := Lib.hid hok
  have HR := Lib.hid hr
  clear hok hr
  go_wp2_with fail
  exact bodyPost_ret (v := .tuple #[.int .u64 (m : Int), .int .i64 x, .bool neg, .bool tr, .bool false, .int .i64 (i : Int), .bool ok]) (by simp [results, Try.results49, go_sem]) rfl ⟨rfl, m, x, tr, i, ok, rfl, HOK.out, HR.out⟩

/-- what the thin package's reader answers -/
def RdOut (a b : List Nat) (e : Int) (neg : Bool) (N : Nat) (w : World) (r : Ending) (w' : World) : Prop :=
  Below w.heap.size w w' ∧ ∃ (m : Nat) (x : Int) (tr : Bool) (i : Nat) (ok : Bool), r = .returned (.tuple #[.agg #[.int .u64 (m : Int), .int .i64 x, .bool neg, .bool tr, .bool false, .int .i64 (i : Int)], .bool ok]) ∧ ok = decide (0 < (a ++ b).length) ∧
    (0 < (a ++ b).length → i = N ∧ m = rdM (headL (a ++ b)) ∧ tr = rdT (headL (a ++ b)) ∧ -2000 ≤ x ∧ x ≤ 2000 ∧ (m ≠ 0 → x = e - (b.length : Int) + ((headL (a ++ b)).length - (min (headL (a ++ b)).length 19 : Nat) : Int)))

set_option maxHeartbeats 1000000 in
set_option maxRecDepth 100000 in
theorem rd_out (a b : List Nat) (neg : Bool) (e : Int) (w : World) (ha : Digs a) (hb : Digs b) (hla : a.length ≤ 400) (hlb : b.length ≤ 400) (e0 : -1000 < e) (e1 : e < 1000) :
    Calls Try.prog 25 #[.string (bs (textL neg a b e))] w (RdOut a b e neg (textL neg a b e).length w) := by
  have HA := Lib.hid ha
  have HB := Lib.hid hb
  clear ha hb
  have HB0 := Lib.hid (Box.new w 48 #[.int .u64 0, .int .i64 0, .bool false, .bool false, .bool false, .int .i64 0])
  have HL := Lib.hid (below_new w (.cells #[.int .u64 0, .int .i64 0, .bool false, .bool false, .bool false, .int .i64 0] 48))
  go_enter Try.func25, Try.ntmps25
  go_wp2_with fail
  generalize w.alloc (.cells #[.int .u64 0, .int .i64 0, .bool false, .bool false, .bool false, .int .i64 0] 48) = W at *
  refine (rd_gs a b neg e _ HA.out HB.out hla hlb e0 e1).mono ?_
  rintro r w' ⟨rfl, m, x, tr, i, ok, rfl, hok, hr⟩
  have HOK := Lib.hid hok
  have HR := Lib.hid hr
  clear hok hr
  have r0 : W.cell? ⟨w.heap.size, 0, none⟩ = some (.int .u64 0) := by rw [HB0.out.cell 0]; rfl
  have r1 : W.cell? ⟨w.heap.size, 1, none⟩ = some (.int .i64 0) := by rw [HB0.out.cell 1]; rfl
  have r2 : W.cell? ⟨w.heap.size, 2, none⟩ = some (.bool false) := by rw [HB0.out.cell 2]; rfl
  have r3 : W.cell? ⟨w.heap.size, 3, none⟩ = some (.bool false) := by rw [HB0.out.cell 3]; rfl
  have r4 : W.cell? ⟨w.heap.size, 4, none⟩ = some (.bool false) := by rw [HB0.out.cell 4]; rfl
  have r5 : W.cell? ⟨w.heap.size, 5, none⟩ = some (.int .i64 0) := by rw [HB0.out.cell 5]; rfl
  have f0 : W.frozen? ⟨w.heap.size, 0, none⟩ = false := HB0.out.frozen 0
  have f1 : W.frozen? ⟨w.heap.size, 1, none⟩ = false := HB0.out.frozen 1
  have f2 : W.frozen? ⟨w.heap.size, 2, none⟩ = false := HB0.out.frozen 2
  have f3 : W.frozen? ⟨w.heap.size, 3, none⟩ = false := HB0.out.frozen 3
  have f4 : W.frozen? ⟨w.heap.size, 4, none⟩ = false := HB0.out.frozen 4
  have f5 : W.frozen? ⟨w.heap.size, 5, none⟩ = false := HB0.out.frozen 5
  go_wp2_with fail
  have b1 := HB0.out.set 0 (.int .u64 (m : Int))
  have b2 := b1.set 1 (.int .i64 x)
  have b3 := b2.set 2 (.bool neg)
  have b4 := b3.set 3 (.bool tr)
  have b5 := b4.set 4 (.bool false)
  have b6 := b5.set 5 (.int .i64 (i : Int))
  have q0 := b1.cell 0
  have q1 := b2.cell 1
  have q2 := b3.cell 2
  have q3 := b4.cell 3
  have q4 := b5.cell 4
  have q5 := b6.cell 5
  have L4 := (((((HL.out.setCell (p := ⟨w.heap.size, 0, none⟩) (Nat.le_refl _) (.int .u64 (m : Int))).setCell (p := ⟨w.heap.size, 1, none⟩) (Nat.le_refl _) (.int .i64 x)).setCell (p := ⟨w.heap.size, 2, none⟩) (Nat.le_refl _) (.bool neg)).setCell (p := ⟨w.heap.size, 3, none⟩) (Nat.le_refl _) (.bool tr)).setCell (p := ⟨w.heap.size, 4, none⟩) (Nat.le_refl _) (.bool false)).setCell (p := ⟨w.heap.size, 5, none⟩) (Nat.le_refl _) (.int .i64 (i : Int))
  exact bodyPost_ret (v := .tuple #[.agg #[.int .u64 (m : Int), .int .i64 x, .bool neg, .bool tr, .bool false, .int .i64 (i : Int)], .bool ok]) (by simp [results, Try.results25, go_sem, q0, q1, q2, q3, q4, q5]) rfl ⟨L4, m, x, tr, i, ok, rfl, HOK.out, HR.out⟩
end Go.Proofs.Ytfkhingkmfapbaa
