/- RoundDecimalDown, RoundDecimalUp of the package and of the thin package, by contracts. Written by gen_dec.py. -/
import Derived.Test.YtfkhingkmfapbaaRou
namespace Go.Proofs.Ytfkhingkmfapbaa
open Go.RowKit

/-- a call hands back this decimal number -/
def GivesDec (L : List Nat) (P : Int) (neg tr : Bool) (w : World) (e : Ending) (w' : World) : Prop := e = .returned (.agg #[.string (bs L), .int .i64 P, .bool neg, .bool tr]) ∧ Below w.heap.size w w'
/-- how many digits, and the point, behind RoundDown -/
def dnN (l : List Nat) (k : Nat) : Nat := if l.length ≤ k then l.length else cut0 (padL l) k
def dnP (l : List Nat) (k : Nat) (p : Int) : Int := if l.length ≤ k then p else dpz (cut0 (padL l) k) p
theorem dnN_le (l : List Nat) (k : Nat) (h : l.length ≤ 800) : dnN l k ≤ 800 := by
  unfold dnN
  split
  · exact h
  · have := cut0_le (padL l) k; omega
theorem down_all (l : List Nat) (k : Nat) (p : Int) (neg tr : Bool) (b : Nat) (w : World) (h : DecBox w b (padL l) l.length p neg tr) (hl : l.length ≤ 800) :
    Calls Try.prog 57 #[.pointer (some ⟨b, 0, none⟩), .int .i64 k] w (Makes b (padL l) (dnN l k : Nat) (dnP l k p) neg tr w) := by
  unfold dnN dnP
  by_cases hk : l.length ≤ k
  · rw [if_pos hk, if_pos hk]; exact roundDown_same b _ _ k p neg tr w h hk
  · rw [if_neg hk, if_neg hk]; exact roundDown_cut b _ _ k p neg tr w h hl (by omega)
def rupD (l : List Nat) (k : Nat) : List Nat := if l.length ≤ k then padL l else upD (padL l) (up9 (padL l) k)
def rupN (l : List Nat) (k : Nat) : Nat := if l.length ≤ k then l.length else upN (up9 (padL l) k)
def rupP (l : List Nat) (k : Nat) (p : Int) : Int := if l.length ≤ k then p else upP (up9 (padL l) k) p
theorem rupN_le (l : List Nat) (k : Nat) (h : l.length ≤ 800) : rupN l k ≤ 800 := by
  unfold rupN
  split
  · exact h
  · have := up9_le (padL l) k
    unfold upN
    split <;> omega
theorem up_all (l : List Nat) (k : Nat) (p : Int) (neg tr : Bool) (b : Nat) (w : World) (h : DecBox w b (padL l) l.length p neg tr) (hl : l.length ≤ 800) (p1 : -100000 ≤ p) (p2 : p ≤ 100000) :
    Calls Try.prog 59 #[.pointer (some ⟨b, 0, none⟩), .int .i64 k] w (Makes b (rupD l k) (rupN l k : Nat) (rupP l k p) neg tr w) := by
  unfold rupD rupN rupP
  by_cases hk : l.length ≤ k
  · rw [if_pos hk, if_pos hk, if_pos hk]; exact roundUp_same b _ _ k p neg tr w h hk
  · rw [if_neg hk, if_neg hk, if_neg hk]; exact roundUp_cut b _ _ k p neg tr w h hl (by omega) p1 p2

set_option maxHeartbeats 1000000 in
set_option maxRecDepth 100000 in
theorem rdDown_gs (l : List Nat) (k : Nat) (p : Int) (neg tr : Bool) (w : World) (hB : Bytes l) (hl : l.length ≤ 800) (_hk : k ≤ 100000) (_p1 : -100000 ≤ p) (_p2 : p ≤ 100000) :
    Calls Try.prog 37 #[.agg #[.string (bs l), .int .i64 p, .bool neg, .bool tr], .int .i64 k] w (GivesDec ((padL l).take (dnN l k)) (dnP l k p) neg tr w) := by
  have hsz := bs_size l
  have HBy := Lib.hid hB
  clear hB
  have hW : Below w.heap.size w ((w.alloc (.cells #[.string (bs l), .int .i64 p, .bool neg, .bool tr] 69)).alloc (.cells #[.string ⟨#[]⟩, .int .i64 0, .bool false, .bool false] 69)) :=
    ((Below.refl _ _).alloc (Nat.le_refl _) _).alloc (by simp) _
  have B1 : Box ((w.alloc (.cells #[.string (bs l), .int .i64 p, .bool neg, .bool tr] 69)).alloc (.cells #[.string ⟨#[]⟩, .int .i64 0, .bool false, .bool false] 69)) 69 (w.heap.size + 1) #[.string ⟨#[]⟩, .int .i64 0, .bool false, .bool false] := by
    have := Box.new (w.alloc (.cells #[.string (bs l), .int .i64 p, .bool neg, .bool tr] 69)) 69 #[.string ⟨#[]⟩, .int .i64 0, .bool false, .bool false]
    simpa using this
  have HW := Lib.hid hW
  have HB1 := Lib.hid B1
  clear hW B1
  go_enter Try.func37, Try.ntmps37
  go_wp2_with fail
  generalize (w.alloc (.cells #[.string (bs l), .int .i64 p, .bool neg, .bool tr] 69)).alloc (.cells #[.string ⟨#[]⟩, .int .i64 0, .bool false, .bool false] 69) = W at *
  refine (fromDecimal_any l p neg tr _ HBy.out (by omega)).mono ?_
  rintro e w1 ⟨b, rfl, hb, hd, hbl⟩
  have HD1 := Lib.hid hd
  have HBl := Lib.hid hbl
  clear hd hbl
  go_wp2_with fail
  refine (down_all l k p neg tr b _ HD1.out hl).mono ?_
  rintro e w2 ⟨rfl, hd, ho⟩
  have HD2 := Lib.hid hd
  have HO := Lib.hid ho
  clear hd ho
  go_wp2_with fail
  refine (toDecimal_any b (padL l) (dnN l k) _ _ _ _ HD2.out (dnN_le l k hl)).mono ?_
  rintro e w3 ⟨rfl, hb3⟩
  have L3 : Below W.heap.size W w3 := by
    have x1 := HO.out.below (B := W.heap.size) hb HBl.out.size
    exact (HBl.out.trans x1).trans (hb3.mono (HBl.out.trans x1).size)
  have K0 := HB1.out.later L3 HB1.out.lt
  have HL3 := Lib.hid (HW.out.trans (L3.mono HW.out.size))
  have HK := Lib.hid K0
  clear L3 hb3 K0
  generalize hL : ((padL l).take (dnN l k)) = L at *
  generalize hP : (dnP l k p) = P at *
  clear hL hP
  have r0 : w3.cell? ⟨w.heap.size + 1, 0, none⟩ = some (.string ⟨#[]⟩) := by rw [HK.out.cell 0]; rfl
  have r1 : w3.cell? ⟨w.heap.size + 1, 1, none⟩ = some (.int .i64 0) := by rw [HK.out.cell 1]; rfl
  have r2 : w3.cell? ⟨w.heap.size + 1, 2, none⟩ = some (.bool false) := by rw [HK.out.cell 2]; rfl
  have r3 : w3.cell? ⟨w.heap.size + 1, 3, none⟩ = some (.bool false) := by rw [HK.out.cell 3]; rfl
  have f0 : w3.frozen? ⟨w.heap.size + 1, 0, none⟩ = false := HK.out.frozen 0
  have f1 : w3.frozen? ⟨w.heap.size + 1, 1, none⟩ = false := HK.out.frozen 1
  have f2 : w3.frozen? ⟨w.heap.size + 1, 2, none⟩ = false := HK.out.frozen 2
  have f3 : w3.frozen? ⟨w.heap.size + 1, 3, none⟩ = false := HK.out.frozen 3
  go_wp2_with fail
  have b1 := HK.out.set 0 (.string (bs L))
  have b2 := b1.set 1 (.int .i64 P)
  have b3 := b2.set 2 (.bool neg)
  have b4 := b3.set 3 (.bool tr)
  have q0 := b1.cell 0
  have q1 := b2.cell 1
  have q2 := b3.cell 2
  have q3 := b4.cell 3
  have L4 := (((HL3.out.setCell (p := ⟨w.heap.size + 1, 0, none⟩) (Nat.le_succ _) (.string (bs L))).setCell (p := ⟨w.heap.size + 1, 1, none⟩) (Nat.le_succ _) (.int .i64 P)).setCell (p := ⟨w.heap.size + 1, 2, none⟩) (Nat.le_succ _) (.bool neg)).setCell (p := ⟨w.heap.size + 1, 3, none⟩) (Nat.le_succ _) (.bool tr)
  exact bodyPost_ret (v := .agg #[.string (bs L), .int .i64 P, .bool neg, .bool tr]) (by simp [results, Try.results37, go_sem, q0, q1, q2, q3]) rfl ⟨rfl, L4⟩

set_option maxHeartbeats 1000000 in
set_option maxRecDepth 100000 in
theorem rdDown_out (l : List Nat) (k : Nat) (p : Int) (neg tr : Bool) (w : World) (hB : Bytes l) (hl : l.length ≤ 800) (_hk : k ≤ 100000) (_p1 : -100000 ≤ p) (_p2 : p ≤ 100000) :
    Calls Try.prog 12 #[.agg #[.string (bs l), .int .i64 p, .bool neg, .bool tr], .int .i64 k] w (GivesDec ((padL l).take (dnN l k)) (dnP l k p) neg tr w) := by
  have HBy := Lib.hid hB
  clear hB
  have hW : Below w.heap.size w ((w.alloc (.cells #[.string (bs l), .int .i64 p, .bool neg, .bool tr] 25)).alloc (.cells #[.string ⟨#[]⟩, .int .i64 0, .bool false, .bool false] 25)) :=
    ((Below.refl _ _).alloc (Nat.le_refl _) _).alloc (by simp) _
  have B1 : Box ((w.alloc (.cells #[.string (bs l), .int .i64 p, .bool neg, .bool tr] 25)).alloc (.cells #[.string ⟨#[]⟩, .int .i64 0, .bool false, .bool false] 25)) 25 (w.heap.size + 1) #[.string ⟨#[]⟩, .int .i64 0, .bool false, .bool false] := by
    have := Box.new (w.alloc (.cells #[.string (bs l), .int .i64 p, .bool neg, .bool tr] 25)) 25 #[.string ⟨#[]⟩, .int .i64 0, .bool false, .bool false]
    simpa using this
  have HW := Lib.hid hW
  have HB1 := Lib.hid B1
  clear hW B1
  go_enter Try.func12, Try.ntmps12
  go_wp2_with fail
  generalize (w.alloc (.cells #[.string (bs l), .int .i64 p, .bool neg, .bool tr] 25)).alloc (.cells #[.string ⟨#[]⟩, .int .i64 0, .bool false, .bool false] 25) = W at *
  refine (rdDown_gs l k p neg tr _ HBy.out hl _hk _p1 _p2).mono ?_
  rintro e w3 ⟨rfl, hb3⟩
  have K0 := HB1.out.later hb3 HB1.out.lt
  have HL3 := Lib.hid (HW.out.trans (hb3.mono HW.out.size))
  have HK := Lib.hid K0
  clear hb3 K0
  generalize hL : ((padL l).take (dnN l k)) = L at *
  generalize hP : (dnP l k p) = P at *
  clear hL hP
  have r0 : w3.cell? ⟨w.heap.size + 1, 0, none⟩ = some (.string ⟨#[]⟩) := by rw [HK.out.cell 0]; rfl
  have r1 : w3.cell? ⟨w.heap.size + 1, 1, none⟩ = some (.int .i64 0) := by rw [HK.out.cell 1]; rfl
  have r2 : w3.cell? ⟨w.heap.size + 1, 2, none⟩ = some (.bool false) := by rw [HK.out.cell 2]; rfl
  have r3 : w3.cell? ⟨w.heap.size + 1, 3, none⟩ = some (.bool false) := by rw [HK.out.cell 3]; rfl
  have f0 : w3.frozen? ⟨w.heap.size + 1, 0, none⟩ = false := HK.out.frozen 0
  have f1 : w3.frozen? ⟨w.heap.size + 1, 1, none⟩ = false := HK.out.frozen 1
  have f2 : w3.frozen? ⟨w.heap.size + 1, 2, none⟩ = false := HK.out.frozen 2
  have f3 : w3.frozen? ⟨w.heap.size + 1, 3, none⟩ = false := HK.out.frozen 3
  go_wp2_with fail
  have b1 := HK.out.set 0 (.string (bs L))
  have b2 := b1.set 1 (.int .i64 P)
  have b3 := b2.set 2 (.bool neg)
  have b4 := b3.set 3 (.bool tr)
  have q0 := b1.cell 0
  have q1 := b2.cell 1
  have q2 := b3.cell 2
  have q3 := b4.cell 3
  have L4 := (((HL3.out.setCell (p := ⟨w.heap.size + 1, 0, none⟩) (Nat.le_succ _) (.string (bs L))).setCell (p := ⟨w.heap.size + 1, 1, none⟩) (Nat.le_succ _) (.int .i64 P)).setCell (p := ⟨w.heap.size + 1, 2, none⟩) (Nat.le_succ _) (.bool neg)).setCell (p := ⟨w.heap.size + 1, 3, none⟩) (Nat.le_succ _) (.bool tr)
  exact bodyPost_ret (v := .agg #[.string (bs L), .int .i64 P, .bool neg, .bool tr]) (by simp [results, Try.results12, go_sem, q0, q1, q2, q3]) rfl ⟨rfl, L4⟩

set_option maxHeartbeats 1000000 in
set_option maxRecDepth 100000 in
theorem rdUp_gs (l : List Nat) (k : Nat) (p : Int) (neg tr : Bool) (w : World) (hB : Bytes l) (hl : l.length ≤ 800) (_hk : k ≤ 100000) (p1 : -100000 ≤ p) (p2 : p ≤ 100000) :
    Calls Try.prog 43 #[.agg #[.string (bs l), .int .i64 p, .bool neg, .bool tr], .int .i64 k] w (GivesDec ((rupD l k).take (rupN l k)) (rupP l k p) neg tr w) := by
  have hsz := bs_size l
  have HBy := Lib.hid hB
  clear hB
  have hW : Below w.heap.size w ((w.alloc (.cells #[.string (bs l), .int .i64 p, .bool neg, .bool tr] 69)).alloc (.cells #[.string ⟨#[]⟩, .int .i64 0, .bool false, .bool false] 69)) :=
    ((Below.refl _ _).alloc (Nat.le_refl _) _).alloc (by simp) _
  have B1 : Box ((w.alloc (.cells #[.string (bs l), .int .i64 p, .bool neg, .bool tr] 69)).alloc (.cells #[.string ⟨#[]⟩, .int .i64 0, .bool false, .bool false] 69)) 69 (w.heap.size + 1) #[.string ⟨#[]⟩, .int .i64 0, .bool false, .bool false] := by
    have := Box.new (w.alloc (.cells #[.string (bs l), .int .i64 p, .bool neg, .bool tr] 69)) 69 #[.string ⟨#[]⟩, .int .i64 0, .bool false, .bool false]
    simpa using this
  have HW := Lib.hid hW
  have HB1 := Lib.hid B1
  clear hW B1
  go_enter Try.func43, Try.ntmps43
  go_wp2_with fail
  generalize (w.alloc (.cells #[.string (bs l), .int .i64 p, .bool neg, .bool tr] 69)).alloc (.cells #[.string ⟨#[]⟩, .int .i64 0, .bool false, .bool false] 69) = W at *
  refine (fromDecimal_any l p neg tr _ HBy.out (by omega)).mono ?_
  rintro e w1 ⟨b, rfl, hb, hd, hbl⟩
  have HD1 := Lib.hid hd
  have HBl := Lib.hid hbl
  clear hd hbl
  go_wp2_with fail
  refine (up_all l k p neg tr b _ HD1.out hl p1 p2).mono ?_
  rintro e w2 ⟨rfl, hd, ho⟩
  have HD2 := Lib.hid hd
  have HO := Lib.hid ho
  clear hd ho
  go_wp2_with fail
  refine (toDecimal_any b (rupD l k) (rupN l k) _ _ _ _ HD2.out (rupN_le l k hl)).mono ?_
  rintro e w3 ⟨rfl, hb3⟩
  have L3 : Below W.heap.size W w3 := by
    have x1 := HO.out.below (B := W.heap.size) hb HBl.out.size
    exact (HBl.out.trans x1).trans (hb3.mono (HBl.out.trans x1).size)
  have K0 := HB1.out.later L3 HB1.out.lt
  have HL3 := Lib.hid (HW.out.trans (L3.mono HW.out.size))
  have HK := Lib.hid K0
  clear L3 hb3 K0
  generalize hL : ((rupD l k).take (rupN l k)) = L at *
  generalize hP : (rupP l k p) = P at *
  clear hL hP
  have r0 : w3.cell? ⟨w.heap.size + 1, 0, none⟩ = some (.string ⟨#[]⟩) := by rw [HK.out.cell 0]; rfl
  have r1 : w3.cell? ⟨w.heap.size + 1, 1, none⟩ = some (.int .i64 0) := by rw [HK.out.cell 1]; rfl
  have r2 : w3.cell? ⟨w.heap.size + 1, 2, none⟩ = some (.bool false) := by rw [HK.out.cell 2]; rfl
  have r3 : w3.cell? ⟨w.heap.size + 1, 3, none⟩ = some (.bool false) := by rw [HK.out.cell 3]; rfl
  have f0 : w3.frozen? ⟨w.heap.size + 1, 0, none⟩ = false := HK.out.frozen 0
  have f1 : w3.frozen? ⟨w.heap.size + 1, 1, none⟩ = false := HK.out.frozen 1
  have f2 : w3.frozen? ⟨w.heap.size + 1, 2, none⟩ = false := HK.out.frozen 2
  have f3 : w3.frozen? ⟨w.heap.size + 1, 3, none⟩ = false := HK.out.frozen 3
  go_wp2_with fail
  have b1 := HK.out.set 0 (.string (bs L))
  have b2 := b1.set 1 (.int .i64 P)
  have b3 := b2.set 2 (.bool neg)
  have b4 := b3.set 3 (.bool tr)
  have q0 := b1.cell 0
  have q1 := b2.cell 1
  have q2 := b3.cell 2
  have q3 := b4.cell 3
  have L4 := (((HL3.out.setCell (p := ⟨w.heap.size + 1, 0, none⟩) (Nat.le_succ _) (.string (bs L))).setCell (p := ⟨w.heap.size + 1, 1, none⟩) (Nat.le_succ _) (.int .i64 P)).setCell (p := ⟨w.heap.size + 1, 2, none⟩) (Nat.le_succ _) (.bool neg)).setCell (p := ⟨w.heap.size + 1, 3, none⟩) (Nat.le_succ _) (.bool tr)
  exact bodyPost_ret (v := .agg #[.string (bs L), .int .i64 P, .bool neg, .bool tr]) (by simp [results, Try.results43, go_sem, q0, q1, q2, q3]) rfl ⟨rfl, L4⟩

set_option maxHeartbeats 1000000 in
set_option maxRecDepth 100000 in
theorem rdUp_out (l : List Nat) (k : Nat) (p : Int) (neg tr : Bool) (w : World) (hB : Bytes l) (hl : l.length ≤ 800) (_hk : k ≤ 100000) (p1 : -100000 ≤ p) (p2 : p ≤ 100000) :
    Calls Try.prog 16 #[.agg #[.string (bs l), .int .i64 p, .bool neg, .bool tr], .int .i64 k] w (GivesDec ((rupD l k).take (rupN l k)) (rupP l k p) neg tr w) := by
  have HBy := Lib.hid hB
  clear hB
  have hW : Below w.heap.size w ((w.alloc (.cells #[.string (bs l), .int .i64 p, .bool neg, .bool tr] 25)).alloc (.cells #[.string ⟨#[]⟩, .int .i64 0, .bool false, .bool false] 25)) :=
    ((Below.refl _ _).alloc (Nat.le_refl _) _).alloc (by simp) _
  have B1 : Box ((w.alloc (.cells #[.string (bs l), .int .i64 p, .bool neg, .bool tr] 25)).alloc (.cells #[.string ⟨#[]⟩, .int .i64 0, .bool false, .bool false] 25)) 25 (w.heap.size + 1) #[.string ⟨#[]⟩, .int .i64 0, .bool false, .bool false] := by
    have := Box.new (w.alloc (.cells #[.string (bs l), .int .i64 p, .bool neg, .bool tr] 25)) 25 #[.string ⟨#[]⟩, .int .i64 0, .bool false, .bool false]
    simpa using this
  have HW := Lib.hid hW
  have HB1 := Lib.hid B1
  clear hW B1
  go_enter Try.func16, Try.ntmps16
  go_wp2_with fail
  generalize (w.alloc (.cells #[.string (bs l), .int .i64 p, .bool neg, .bool tr] 25)).alloc (.cells #[.string ⟨#[]⟩, .int .i64 0, .bool false, .bool false] 25) = W at *
  refine (rdUp_gs l k p neg tr _ HBy.out hl _hk p1 p2).mono ?_
  rintro e w3 ⟨rfl, hb3⟩
  have K0 := HB1.out.later hb3 HB1.out.lt
  have HL3 := Lib.hid (HW.out.trans (hb3.mono HW.out.size))
  have HK := Lib.hid K0
  clear hb3 K0
  generalize hL : ((rupD l k).take (rupN l k)) = L at *
  generalize hP : (rupP l k p) = P at *
  clear hL hP
  have r0 : w3.cell? ⟨w.heap.size + 1, 0, none⟩ = some (.string ⟨#[]⟩) := by rw [HK.out.cell 0]; rfl
  have r1 : w3.cell? ⟨w.heap.size + 1, 1, none⟩ = some (.int .i64 0) := by rw [HK.out.cell 1]; rfl
  have r2 : w3.cell? ⟨w.heap.size + 1, 2, none⟩ = some (.bool false) := by rw [HK.out.cell 2]; rfl
  have r3 : w3.cell? ⟨w.heap.size + 1, 3, none⟩ = some (.bool false) := by rw [HK.out.cell 3]; rfl
  have f0 : w3.frozen? ⟨w.heap.size + 1, 0, none⟩ = false := HK.out.frozen 0
  have f1 : w3.frozen? ⟨w.heap.size + 1, 1, none⟩ = false := HK.out.frozen 1
  have f2 : w3.frozen? ⟨w.heap.size + 1, 2, none⟩ = false := HK.out.frozen 2
  have f3 : w3.frozen? ⟨w.heap.size + 1, 3, none⟩ = false := HK.out.frozen 3
  go_wp2_with fail
  have b1 := HK.out.set 0 (.string (bs L))
  have b2 := b1.set 1 (.int .i64 P)
  have b3 := b2.set 2 (.bool neg)
  have b4 := b3.set 3 (.bool tr)
  have q0 := b1.cell 0
  have q1 := b2.cell 1
  have q2 := b3.cell 2
  have q3 := b4.cell 3
  have L4 := (((HL3.out.setCell (p := ⟨w.heap.size + 1, 0, none⟩) (Nat.le_succ _) (.string (bs L))).setCell (p := ⟨w.heap.size + 1, 1, none⟩) (Nat.le_succ _) (.int .i64 P)).setCell (p := ⟨w.heap.size + 1, 2, none⟩) (Nat.le_succ _) (.bool neg)).setCell (p := ⟨w.heap.size + 1, 3, none⟩) (Nat.le_succ _) (.bool tr)
  exact bodyPost_ret (v := .agg #[.string (bs L), .int .i64 P, .bool neg, .bool tr]) (by simp [results, Try.results16, go_sem, q0, q1, q2, q3]) rfl ⟨rfl, L4⟩
end Go.Proofs.Ytfkhingkmfapbaa
