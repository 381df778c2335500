/- RoundDecimal of the package and of the thin package, by contracts. Written by gen_dec.py. -/
import Derived.Test.YtfkhingkmfapbaaShU
namespace Go.Proofs.Ytfkhingkmfapbaa
open Go.RowKit

set_option maxHeartbeats 1000000 in
set_option maxRecDepth 100000 in
theorem rdRound_gs (l : List Nat) (k : Nat) (p : Int) (neg tr : Bool) (w : World) (hd : Digs l) (hB : Bytes l) (hl : l.length ≤ 800) (_hk : k ≤ 100000) (p1 : -100000 ≤ p) (p2 : p ≤ 100000) :
    Calls Try.prog 44 #[.agg #[.string (bs l), .int .i64 p, .bool neg, .bool tr], .int .i64 k] w (GivesDec ((rrD l k tr).take (rrN l k tr)) (rrP l k tr p) neg tr w) := by
  have HDg := Lib.hid hd
  clear hd
  have hsz := bs_size l
  have HBy := Lib.hid hB
  clear hB
  have hW : Below w.heap.size w ((w.alloc (.cells #[.string (bs l), .int .i64 p, .bool neg, .bool tr] 69)).alloc (.cells #[.string ⟨#[]⟩, .int .i64 0, .bool false, .bool false] 69)) :=
    ((Below.refl _ _).alloc (Nat.le_refl _) _).alloc (by simp) _
  have B1 : Box ((w.alloc (.cells #[.string (bs l), .int .i64 p, .bool neg, .bool tr] 69)).alloc (.cells #[.string ⟨#[]⟩, .int .i64 0, .bool false, .bool false] 69)) 69 (w.heap.size + 1) #[.string ⟨#[]⟩, .int .i64 0, .bool false, .bool false] := by
    have := Box.new (w.alloc (.cells #[.string (bs l), .int .i64 p, .bool neg, .bool tr] 69)) 69 #[.string ⟨#[]⟩, .int .i64 0, .bool false, .bool false]
    simpa using this
  have HW := Lib.hid hW
  have HB1 := Lib.hid B1
  clear hW B1
  go_enter Try.func44, Try.ntmps44
  go_wp2_with fail
  generalize (w.alloc (.cells #[.string (bs l), .int .i64 p, .bool neg, .bool tr] 69)).alloc (.cells #[.string ⟨#[]⟩, .int .i64 0, .bool false, .bool false] 69) = W at *
  refine (fromDecimal_any l p neg tr _ HBy.out (by omega)).mono ?_
  rintro e w1 ⟨b, rfl, hb, hd, hbl⟩
  have HD1 := Lib.hid hd
  have HBl := Lib.hid hbl
  clear hd hbl
  go_wp2_with fail
  refine (round_all l k p neg tr b _ HD1.out hl HDg.out p1 p2).mono ?_
  rintro e w2 ⟨rfl, hd, ho⟩
  have HD2 := Lib.hid hd
  have HO := Lib.hid ho
  clear hd ho
  go_wp2_with fail
  refine (toDecimal_any b (rrD l k tr) (rrN l k tr) _ _ _ _ HD2.out (rrN_le l k tr hl)).mono ?_
  rintro e w3 ⟨rfl, hb3⟩
  have L3 : Below W.heap.size W w3 := by
    have x1 := HO.out.below (B := W.heap.size) hb HBl.out.size
    exact (HBl.out.trans x1).trans (hb3.mono (HBl.out.trans x1).size)
  have K0 := HB1.out.later L3 HB1.out.lt
  have HL3 := Lib.hid (HW.out.trans (L3.mono HW.out.size))
  have HK := Lib.hid K0
  clear L3 hb3 K0
  generalize hL : ((rrD l k tr).take (rrN l k tr)) = L at *
  generalize hP : (rrP l k tr p) = P at *
  clear hL hP
  have r0 : w3.cell? ⟨w.heap.size + 1, 0, none⟩ = some (.string ⟨#[]⟩) := by rw [HK.out.cell 0]; rfl
  have r1 : w3.cell? ⟨w.heap.size + 1, 1, none⟩ = some (.int .i64 0) := by rw [HK.out.cell 1]; rfl
  have r2 : w3.cell? ⟨w.heap.size + 1, 2, none⟩ = some (.bool false) := by rw [HK.out.cell 2]; rfl
  have r3 : w3.cell? ⟨w.heap.size + 1, 3, none⟩ = some (.bool false) := by rw [HK.out.cell 3]; rfl
  have f0 : w3.frozen? ⟨w.heap.size + 1, 0, none⟩ = false := HK.out.frozen 0
  have f1 : w3.frozen? ⟨w.heap.size + 1, 1, none⟩ = false := HK.out.frozen 1
  have f2 : w3.frozen? ⟨w.heap.size + 1, 2, none⟩ = false := HK.out.frozen 2
  have f3 : w3.frozen? ⟨w.heap.size + 1, 3, none⟩ = false := HK.out.frozen 3
  go_wp2_with fail
  have b1 := HK.out.set 0 (.string (bs L))
  have b2 := b1.set 1 (.int .i64 P)
  have b3 := b2.set 2 (.bool neg)
  have b4 := b3.set 3 (.bool tr)
  have q0 := b1.cell 0
  have q1 := b2.cell 1
  have q2 := b3.cell 2
  have q3 := b4.cell 3
  have L4 := (((HL3.out.setCell (p := ⟨w.heap.size + 1, 0, none⟩) (Nat.le_succ _) (.string (bs L))).setCell (p := ⟨w.heap.size + 1, 1, none⟩) (Nat.le_succ _) (.int .i64 P)).setCell (p := ⟨w.heap.size + 1, 2, none⟩) (Nat.le_succ _) (.bool neg)).setCell (p := ⟨w.heap.size + 1, 3, none⟩) (Nat.le_succ _) (.bool tr)
  exact bodyPost_ret (v := .agg #[.string (bs L), .int .i64 P, .bool neg, .bool tr]) (by simp [results, Try.results44, go_sem, q0, q1, q2, q3]) rfl ⟨rfl, L4⟩

set_option maxHeartbeats 1000000 in
set_option maxRecDepth 100000 in
theorem rdRound_out (l : List Nat) (k : Nat) (p : Int) (neg tr : Bool) (w : World) (hd : Digs l) (hB : Bytes l) (hl : l.length ≤ 800) (_hk : k ≤ 100000) (p1 : -100000 ≤ p) (p2 : p ≤ 100000) :
    Calls Try.prog 17 #[.agg #[.string (bs l), .int .i64 p, .bool neg, .bool tr], .int .i64 k] w (GivesDec ((rrD l k tr).take (rrN l k tr)) (rrP l k tr p) neg tr w) := by
  have HDg := Lib.hid hd
  clear hd
  have HBy := Lib.hid hB
  clear hB
  have hW : Below w.heap.size w ((w.alloc (.cells #[.string (bs l), .int .i64 p, .bool neg, .bool tr] 25)).alloc (.cells #[.string ⟨#[]⟩, .int .i64 0, .bool false, .bool false] 25)) :=
    ((Below.refl _ _).alloc (Nat.le_refl _) _).alloc (by simp) _
  have B1 : Box ((w.alloc (.cells #[.string (bs l), .int .i64 p, .bool neg, .bool tr] 25)).alloc (.cells #[.string ⟨#[]⟩, .int .i64 0, .bool false, .bool false] 25)) 25 (w.heap.size + 1) #[.string ⟨#[]⟩, .int .i64 0, .bool false, .bool false] := by
    have := Box.new (w.alloc (.cells #[.string (bs l), .int .i64 p, .bool neg, .bool tr] 25)) 25 #[.string ⟨#[]⟩, .int .i64 0, .bool false, .bool false]
    simpa using this
  have HW := Lib.hid hW
  have HB1 := Lib.hid B1
  clear hW B1
  go_enter Try.func17, Try.ntmps17
  go_wp2_with fail
  generalize (w.alloc (.cells #[.string (bs l), .int .i64 p, .bool neg, .bool tr] 25)).alloc (.cells #[.string ⟨#[]⟩, .int .i64 0, .bool false, .bool false] 25) = W at *
  refine (rdRound_gs l k p neg tr _ HDg.out HBy.out hl _hk p1 p2).mono ?_
  rintro e w3 ⟨rfl, hb3⟩
  have K0 := HB1.out.later hb3 HB1.out.lt
  have HL3 := Lib.hid (HW.out.trans (hb3.mono HW.out.size))
  have HK := Lib.hid K0
  clear hb3 K0
  generalize hL : ((rrD l k tr).take (rrN l k tr)) = L at *
  generalize hP : (rrP l k tr p) = P at *
  clear hL hP
  have r0 : w3.cell? ⟨w.heap.size + 1, 0, none⟩ = some (.string ⟨#[]⟩) := by rw [HK.out.cell 0]; rfl
  have r1 : w3.cell? ⟨w.heap.size + 1, 1, none⟩ = some (.int .i64 0) := by rw [HK.out.cell 1]; rfl
  have r2 : w3.cell? ⟨w.heap.size + 1, 2, none⟩ = some (.bool false) := by rw [HK.out.cell 2]; rfl
  have r3 : w3.cell? ⟨w.heap.size + 1, 3, none⟩ = some (.bool false) := by rw [HK.out.cell 3]; rfl
  have f0 : w3.frozen? ⟨w.heap.size + 1, 0, none⟩ = false := HK.out.frozen 0
  have f1 : w3.frozen? ⟨w.heap.size + 1, 1, none⟩ = false := HK.out.frozen 1
  have f2 : w3.frozen? ⟨w.heap.size + 1, 2, none⟩ = false := HK.out.frozen 2
  have f3 : w3.frozen? ⟨w.heap.size + 1, 3, none⟩ = false := HK.out.frozen 3
  go_wp2_with fail
  have b1 := HK.out.set 0 (.string (bs L))
  have b2 := b1.set 1 (.int .i64 P)
  have b3 := b2.set 2 (.bool neg)
  have b4 := b3.set 3 (.bool tr)
  have q0 := b1.cell 0
  have q1 := b2.cell 1
  have q2 := b3.cell 2
  have q3 := b4.cell 3
  have L4 := (((HL3.out.setCell (p := ⟨w.heap.size + 1, 0, none⟩) (Nat.le_succ _) (.string (bs L))).setCell (p := ⟨w.heap.size + 1, 1, none⟩) (Nat.le_succ _) (.int .i64 P)).setCell (p := ⟨w.heap.size + 1, 2, none⟩) (Nat.le_succ _) (.bool neg)).setCell (p := ⟨w.heap.size + 1, 3, none⟩) (Nat.le_succ _) (.bool tr)
  exact bodyPost_ret (v := .agg #[.string (bs L), .int .i64 P, .bool neg, .bool tr]) (by simp [results, Try.results17, go_sem, q0, q1, q2, q3]) rfl ⟨rfl, L4⟩
end Go.Proofs.Ytfkhingkmfapbaa
