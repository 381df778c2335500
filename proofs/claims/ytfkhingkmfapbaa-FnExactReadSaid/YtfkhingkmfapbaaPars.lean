/- ParseDecimal of the package and of the thin package, by contracts. -/
import Derived.Test.YtfkhingkmfapbaaSet
import Derived.Test.YtfkhingkmfapbaaDecT
namespace Go.Proofs.Ytfkhingkmfapbaa
open Go.RowKit

/-- the digits, the point, the sign, and whether it is a number -/
def GivesParse (a b : List Nat) (e : Int) (neg : Bool) (w : World) (r : Ending) (w' : World) : Prop :=
  ∃ dp : Int, r = .returned (.tuple #[.agg #[.string (bs (headL (a ++ b))), .int .i64 dp, .bool neg, .bool false], .bool (decide (0 < (a ++ b).length))]) ∧ -1500 ≤ dp ∧ dp ≤ 1500 ∧
    (0 < (a ++ b).length → dp = (a.length : Int) - ((a ++ b).length - ((headL (a ++ b)).length : Nat) : Int) + e) ∧ Below w.heap.size w w'
theorem textL_bytes {neg : Bool} {a b : List Nat} {e : Int} (ha : Digs a) (hb : Digs b) : Bytes (textL neg a b e) := by
  intro x hx
  simp only [textL, List.mem_append, expL, sgL] at hx
  rcases hx with (hx | ((hx | hx) | hx) | hx) | hx | hx
  · cases neg <;> simp at hx; omega
  · have := ha x hx; omega
  · simp at hx; omega
  · have := hb x hx; omega
  · simp at hx; omega
  · split at hx <;> simp at hx; omega
  · have := decL_digs e.natAbs x hx; omega
theorem set_text (b0 : Nat) (a b : List Nat) (neg : Bool) (e : Int) (w : World) (ha : Digs a) (hb : Digs b) (hla : a.length ≤ 400) (hlb : b.length ≤ 400) (e0 : -1000 < e) (e1 : e < 1000) (h : DecBox w b0 (List.replicate 800 0) 0 0 false false) :
    Calls Try.prog 63 #[.pointer (some ⟨b0, 0, none⟩), .string (bs (textL neg a b e))] w (SetPost b0 a b e neg w) := by
  refine set_any b0 _ (sgL neg).length a b (expL e) neg e w (textL_bytes ha hb) (parts_of _ _ _ _) ?_ ha hb hla hlb (expIs_of e0 e1) h
  cases neg
  · exact .inr ⟨rfl, rfl⟩
  · exact .inl ⟨rfl, rfl, rfl⟩

set_option maxHeartbeats 1000000 in
set_option maxRecDepth 100000 in
theorem parse_gs (a b : List Nat) (neg : Bool) (e : Int) (w : World) (ha : Digs a) (hb : Digs b) (hla : a.length ≤ 400) (hlb : b.length ≤ 400) (e0 : -1000 < e) (e1 : e < 1000) :
    Calls Try.prog 47 #[.string (bs (textL neg a b e))] w (GivesParse a b e neg w) := by
  have HA := Lib.hid ha
  have HB := Lib.hid hb
  have hlX : (headL (a ++ b)).length ≤ 800 := by have h1 := headL_le (a ++ b); simp at h1; omega
  clear ha hb
  have D0 := DecBox.new (w.alloc (.cells #[.string ⟨#[]⟩, .int .i64 0, .bool false, .bool false] 69))
  have B0 := (Box.new w 69 #[.string ⟨#[]⟩, .int .i64 0, .bool false, .bool false]).alloc (.cells Try.zeroCells95 95)
  have L0 := (below_new w (.cells #[.string ⟨#[]⟩, .int .i64 0, .bool false, .bool false] 69)).alloc (by simp) (.cells Try.zeroCells95 95)
  rw [show (w.alloc (.cells #[.string ⟨#[]⟩, .int .i64 0, .bool false, .bool false] 69)).heap.size = w.heap.size + 1 from by simp] at D0
  have HD := Lib.hid D0
  have HB0 := Lib.hid B0
  have HL := Lib.hid L0
  clear D0 B0 L0
  go_enter Try.func47, Try.ntmps47
  go_wp2_with fail
  generalize (w.alloc (.cells #[.string ⟨#[]⟩, .int .i64 0, .bool false, .bool false] 69)).alloc (.cells Try.zeroCells95 95) = W at *
  refine (set_text _ a b neg e _ HA.out HB.out hla hlb e0 e1 HD.out).mono ?_
  rintro r w1 ⟨rfl, D, dp, hd, ht, ho, hp1, hp2, hp3⟩
  have HD1 := Lib.hid hd
  have HT := Lib.hid ht
  have HO := Lib.hid ho
  have HP3 := Lib.hid hp3
  clear hd ht ho hp3
  go_wp2_with fail
  refine (toDecimal_any _ D (headL (a ++ b)).length dp neg false _ HD1.out hlX).mono ?_
  rintro r w2 ⟨rfl, hb2⟩
  rw [HT.out]
  have ob : Only (w.heap.size + 1) W w2 := HO.out.trans (Only.of_below hb2)
  have K0 : Box w2 69 w.heap.size #[.string ⟨#[]⟩, .int .i64 0, .bool false, .bool false] := (ob.block w.heap.size HB0.out.lt (by simp)).trans HB0.out
  have L3 : Below w.heap.size w w2 := HL.out.trans (ob.below (by omega) (by have := HL.out.size; omega))
  have r0 : w2.cell? ⟨w.heap.size, 0, none⟩ = some (.string ⟨#[]⟩) := by rw [K0.cell 0]; rfl
  have r1 : w2.cell? ⟨w.heap.size, 1, none⟩ = some (.int .i64 0) := by rw [K0.cell 1]; rfl
  have r2 : w2.cell? ⟨w.heap.size, 2, none⟩ = some (.bool false) := by rw [K0.cell 2]; rfl
  have r3 : w2.cell? ⟨w.heap.size, 3, none⟩ = some (.bool false) := by rw [K0.cell 3]; rfl
  have f0 : w2.frozen? ⟨w.heap.size, 0, none⟩ = false := K0.frozen 0
  have f1 : w2.frozen? ⟨w.heap.size, 1, none⟩ = false := K0.frozen 1
  have f2 : w2.frozen? ⟨w.heap.size, 2, none⟩ = false := K0.frozen 2
  have f3 : w2.frozen? ⟨w.heap.size, 3, none⟩ = false := K0.frozen 3
  have HK0 := Lib.hid K0
  have HL3 := Lib.hid L3
  clear K0 L3 ob hb2
  generalize hLL : headL (a ++ b) = LL at *
  have HLL := Lib.hid hLL
  clear hLL
  go_wp2_with fail
  have b1 := HK0.out.set 0 (.string (bs LL))
  have b2 := b1.set 1 (.int .i64 dp)
  have b3 := b2.set 2 (.bool neg)
  have b4 := b3.set 3 (.bool false)
  have q0 := b1.cell 0
  have q1 := b2.cell 1
  have q2 := b3.cell 2
  have q3 := b4.cell 3
  have L4 := (((HL3.out.setCell (p := ⟨w.heap.size, 0, none⟩) (Nat.le_refl _) (.string (bs LL))).setCell (p := ⟨w.heap.size, 1, none⟩) (Nat.le_refl _) (.int .i64 dp)).setCell (p := ⟨w.heap.size, 2, none⟩) (Nat.le_refl _) (.bool neg)).setCell (p := ⟨w.heap.size, 3, none⟩) (Nat.le_refl _) (.bool false)
  exact bodyPost_ret (v := .tuple #[.agg #[.string (bs LL), .int .i64 dp, .bool neg, .bool false], .bool (decide (0 < (a ++ b).length))]) (by simp [results, Try.results47, go_sem, q0, q1, q2, q3]) rfl ⟨dp, by rw [HLL.out], hp1, hp2, by rw [HLL.out]; exact HP3.out, L4⟩

set_option maxHeartbeats 1000000 in
set_option maxRecDepth 100000 in
theorem parse_out (a b : List Nat) (neg : Bool) (e : Int) (w : World) (ha : Digs a) (hb : Digs b) (hla : a.length ≤ 400) (hlb : b.length ≤ 400) (e0 : -1000 < e) (e1 : e < 1000) :
    Calls Try.prog 21 #[.string (bs (textL neg a b e))] w (GivesParse a b e neg w) := by
  have HA := Lib.hid ha
  have HB := Lib.hid hb
  clear ha hb
  have HB0 := Lib.hid (Box.new w 25 #[.string ⟨#[]⟩, .int .i64 0, .bool false, .bool false])
  have HL := Lib.hid (below_new w (.cells #[.string ⟨#[]⟩, .int .i64 0, .bool false, .bool false] 25))
  go_enter Try.func21, Try.ntmps21
  go_wp2_with fail
  generalize w.alloc (.cells #[.string ⟨#[]⟩, .int .i64 0, .bool false, .bool false] 25) = W at *
  refine (parse_gs a b neg e _ HA.out HB.out hla hlb e0 e1).mono ?_
  rintro r w2 ⟨dp, rfl, hp1, hp2, hp3, hb2⟩
  have HP3 := Lib.hid hp3
  have K0 := (HB0.out.later hb2 HB0.out.lt).alloc (.cells #[.string (bs (headL (a ++ b))), .int .i64 dp, .bool neg, .bool false] 69)
  have L3 := (HL.out.trans (hb2.mono HL.out.size)).alloc (HL.out.trans (hb2.mono HL.out.size)).size (.cells #[.string (bs (headL (a ++ b))), .int .i64 dp, .bool neg, .bool false] 69)
  have hne : w.heap.size ≠ w2.heap.size := by have h1 := HB0.out.lt; have h2 := hb2.size; omega
  have KN := Box.new w2 69 #[.string (bs (headL (a ++ b))), .int .i64 dp, .bool neg, .bool false]
  have HK0 := Lib.hid K0
  have HL3 := Lib.hid L3
  have HKN := Lib.hid KN
  clear K0 L3 hb2 hp3 KN
  generalize hLL : headL (a ++ b) = LL at *
  have HLL := Lib.hid hLL
  clear hLL
  go_upto_region 2 with fail
  generalize w2.alloc (.cells #[.string (bs LL), .int .i64 dp, .bool neg, .bool false] 69) = W3 at *
  generalize w2.heap.size = g at *
  have r0 : W3.cell? ⟨w.heap.size, 0, none⟩ = some (.string ⟨#[]⟩) := by rw [HK0.out.cell 0]; rfl
  have r1 : W3.cell? ⟨w.heap.size, 1, none⟩ = some (.int .i64 0) := by rw [HK0.out.cell 1]; rfl
  have r2 : W3.cell? ⟨w.heap.size, 2, none⟩ = some (.bool false) := by rw [HK0.out.cell 2]; rfl
  have r3 : W3.cell? ⟨w.heap.size, 3, none⟩ = some (.bool false) := by rw [HK0.out.cell 3]; rfl
  have f0 : W3.frozen? ⟨w.heap.size, 0, none⟩ = false := HK0.out.frozen 0
  have f1 : W3.frozen? ⟨w.heap.size, 1, none⟩ = false := HK0.out.frozen 1
  have f2 : W3.frozen? ⟨w.heap.size, 2, none⟩ = false := HK0.out.frozen 2
  have f3 : W3.frozen? ⟨w.heap.size, 3, none⟩ = false := HK0.out.frozen 3
  have s0 : W3.cell? ⟨g, 0, none⟩ = some (.string (bs LL)) := by rw [HKN.out.cell 0]; rfl
  have s1 : W3.cell? ⟨g, 1, none⟩ = some (.int .i64 dp) := by rw [HKN.out.cell 1]; rfl
  have s2 : W3.cell? ⟨g, 2, none⟩ = some (.bool neg) := by rw [HKN.out.cell 2]; rfl
  have s3 : W3.cell? ⟨g, 3, none⟩ = some (.bool false) := by rw [HKN.out.cell 3]; rfl
  go_wp2_with fail
  have b1 := HK0.out.set 0 (.string (bs LL))
  have b2 := b1.set 1 (.int .i64 dp)
  have b3 := b2.set 2 (.bool neg)
  have b4 := b3.set 3 (.bool false)
  have q0 := b1.cell 0
  have q1 := b2.cell 1
  have q2 := b3.cell 2
  have q3 := b4.cell 3
  have L4 := (((HL3.out.setCell (p := ⟨w.heap.size, 0, none⟩) (Nat.le_refl _) (.string (bs LL))).setCell (p := ⟨w.heap.size, 1, none⟩) (Nat.le_refl _) (.int .i64 dp)).setCell (p := ⟨w.heap.size, 2, none⟩) (Nat.le_refl _) (.bool neg)).setCell (p := ⟨w.heap.size, 3, none⟩) (Nat.le_refl _) (.bool false)
  exact bodyPost_ret (v := .tuple #[.agg #[.string (bs LL), .int .i64 dp, .bool neg, .bool false], .bool (decide (0 < (a ++ b).length))]) (by simp [results, Try.results21, go_sem, q0, q1, q2, q3]) rfl ⟨dp, by rw [HLL.out], hp1, hp2, by rw [HLL.out]; exact HP3.out, L4⟩
end Go.Proofs.Ytfkhingkmfapbaa
