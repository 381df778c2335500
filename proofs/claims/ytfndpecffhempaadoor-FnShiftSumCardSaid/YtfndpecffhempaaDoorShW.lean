/- ShiftDecimal of the package and of the thin package, by contracts. Written by gen_shw.py. -/
import Derived.Test.YtfndpecffhempaaDoorShf
import Derived.Test.YtfndpecffhempaaDoorDecT
namespace Go.Proofs.YtfndpecffhempaaDoor
open Go.RowKit

/-- a call hands back this decimal number; nothing that was there has turned -/
def GivesDec (L : List Nat) (P : Int) (neg tr : Bool) (w : World) (e : Ending) (w' : World) : Prop := e = .returned (.agg #[.string (bs L), .int .i64 P, .bool neg, .bool tr]) ∧ Below w.heap.size w w'
/-- a call hands back a decimal number of which Q says what it is -/
def GivesQ (neg : Bool) (Q : List Nat → Int → Bool → Prop) (w : World) (e : Ending) (w' : World) : Prop := ∃ L P tr, Q L P tr ∧ GivesDec L P neg tr w e w'

set_option maxHeartbeats 1000000 in
set_option maxRecDepth 100000 in
theorem shift_gs (l : List Nat) (k : Int) (p : Int) (neg tr : Bool) (w : World) (B : Nat) (hd : l.length ≠ 0 → Lead l) (hB : Bytes l) (hl : l.length ≤ 800) (hC : Cheat w B) (p1 : -2600 ≤ p) (p2 : p ≤ 2600) (k1 : -1140 ≤ k) (k2 : k ≤ 1140) :
    Calls Tryd.prog 29 #[.agg #[.string (bs l), .int .i64 p, .bool neg, .bool tr], .int .i64 k] w (GivesQ neg (ShK l p tr k) w) := by
  have HDg := Lib.hid hd
  have HC := Lib.hid hC
  clear hd hC
  have hsz := bs_size l
  have HBy := Lib.hid hB
  clear hB
  have hW : Below w.heap.size w ((w.alloc (.cells #[.string (bs l), .int .i64 p, .bool neg, .bool tr] 61)).alloc (.cells #[.string ⟨#[]⟩, .int .i64 0, .bool false, .bool false] 61)) :=
    ((Below.refl _ _).alloc (Nat.le_refl _) _).alloc (by simp) _
  have B1 : Box ((w.alloc (.cells #[.string (bs l), .int .i64 p, .bool neg, .bool tr] 61)).alloc (.cells #[.string ⟨#[]⟩, .int .i64 0, .bool false, .bool false] 61)) 61 (w.heap.size + 1) #[.string ⟨#[]⟩, .int .i64 0, .bool false, .bool false] := by
    have := Box.new (w.alloc (.cells #[.string (bs l), .int .i64 p, .bool neg, .bool tr] 61)) 61 #[.string ⟨#[]⟩, .int .i64 0, .bool false, .bool false]
    simpa using this
  have HW := Lib.hid hW
  have HB1 := Lib.hid B1
  clear hW B1
  go_enter Tryd.func29, Tryd.ntmps29
  go_wp2_with fail
  generalize (w.alloc (.cells #[.string (bs l), .int .i64 p, .bool neg, .bool tr] 61)).alloc (.cells #[.string ⟨#[]⟩, .int .i64 0, .bool false, .bool false] 61) = W at *
  refine (fromDecimal_any l p neg tr _ HBy.out (by omega)).mono ?_
  rintro e w1 ⟨b, rfl, hb, hd, hbl⟩
  have HD1 := Lib.hid hd
  have HBl := Lib.hid hbl
  clear hd hbl
  go_wp2_with fail
  have HC1 : Hid (Cheat w1 B) := (HC.out.later HW.out HC.out.2.1).later HBl.out (Nat.le_trans HC.out.2.1 HW.out.size)
  have hBb : B ≤ b := Nat.le_trans HC.out.2.1 (Nat.le_trans HW.out.size hb)
  refine (shift_any b B (padL l) l p k neg tr _ HD1.out (padL_take l) hl HDg.out HC1.out hBb p1 p2 k1 k2).mono ?_
  rintro e w2 ⟨rfl, D2, L, P, tr2, hq, hd, ht2, ho⟩
  have HQ := Lib.hid hq
  have HT2 := Lib.hid ht2
  have hL8 : L.length ≤ 800 := by
    have h1 := hd.1
    have h2 := congrArg List.length ht2
    rw [List.length_take] at h2
    omega
  clear hq ht2
  have HD2 := Lib.hid hd
  have HO := Lib.hid ho
  clear hd ho
  go_wp2_with fail
  refine (toDecimal_any b D2 L.length _ _ _ _ HD2.out hL8).mono ?_
  rintro e w3 ⟨rfl, hb3⟩
  rw [HT2.out]
  have L3 : Below W.heap.size W w3 := by
    have x1 := HO.out.below (B := W.heap.size) hb HBl.out.size
    exact (HBl.out.trans x1).trans (hb3.mono (HBl.out.trans x1).size)
  have K0 := HB1.out.later L3 HB1.out.lt
  have HL3 := Lib.hid (HW.out.trans (L3.mono HW.out.size))
  have HK := Lib.hid K0
  clear L3 hb3 K0
  have r0 : w3.cell? ⟨w.heap.size + 1, 0, none⟩ = some (.string ⟨#[]⟩) := by rw [HK.out.cell 0]; rfl
  have r1 : w3.cell? ⟨w.heap.size + 1, 1, none⟩ = some (.int .i64 0) := by rw [HK.out.cell 1]; rfl
  have r2 : w3.cell? ⟨w.heap.size + 1, 2, none⟩ = some (.bool false) := by rw [HK.out.cell 2]; rfl
  have r3 : w3.cell? ⟨w.heap.size + 1, 3, none⟩ = some (.bool false) := by rw [HK.out.cell 3]; rfl
  have f0 : w3.frozen? ⟨w.heap.size + 1, 0, none⟩ = false := HK.out.frozen 0
  have f1 : w3.frozen? ⟨w.heap.size + 1, 1, none⟩ = false := HK.out.frozen 1
  have f2 : w3.frozen? ⟨w.heap.size + 1, 2, none⟩ = false := HK.out.frozen 2
  have f3 : w3.frozen? ⟨w.heap.size + 1, 3, none⟩ = false := HK.out.frozen 3
  go_wp2_with fail
  have b1 := HK.out.set 0 (.string (bs L))
  have b2 := b1.set 1 (.int .i64 P)
  have b3 := b2.set 2 (.bool neg)
  have b4 := b3.set 3 (.bool tr2)
  have q0 := b1.cell 0
  have q1 := b2.cell 1
  have q2 := b3.cell 2
  have q3 := b4.cell 3
  have L4 := (((HL3.out.setCell (p := ⟨w.heap.size + 1, 0, none⟩) (Nat.le_succ _) (.string (bs L))).setCell (p := ⟨w.heap.size + 1, 1, none⟩) (Nat.le_succ _) (.int .i64 P)).setCell (p := ⟨w.heap.size + 1, 2, none⟩) (Nat.le_succ _) (.bool neg)).setCell (p := ⟨w.heap.size + 1, 3, none⟩) (Nat.le_succ _) (.bool tr2)
  exact bodyPost_ret (v := .agg #[.string (bs L), .int .i64 P, .bool neg, .bool tr2]) (by simp [results, Tryd.results29, go_sem, q0, q1, q2, q3]) rfl ⟨L, P, tr2, HQ.out, rfl, L4⟩

set_option maxHeartbeats 1000000 in
set_option maxRecDepth 100000 in
theorem shift_out (l : List Nat) (k : Int) (p : Int) (neg tr : Bool) (w : World) (B : Nat) (hd : l.length ≠ 0 → Lead l) (hB : Bytes l) (hl : l.length ≤ 800) (hC : Cheat w B) (p1 : -2600 ≤ p) (p2 : p ≤ 2600) (k1 : -1140 ≤ k) (k2 : k ≤ 1140) :
    Calls Tryd.prog 11 #[.agg #[.string (bs l), .int .i64 p, .bool neg, .bool tr], .int .i64 k] w (GivesQ neg (ShK l p tr k) w) := by
  have HDg := Lib.hid hd
  have HC := Lib.hid hC
  clear hd hC
  have HBy := Lib.hid hB
  clear hB
  have hW : Below w.heap.size w ((w.alloc (.cells #[.string (bs l), .int .i64 p, .bool neg, .bool tr] 25)).alloc (.cells #[.string ⟨#[]⟩, .int .i64 0, .bool false, .bool false] 25)) :=
    ((Below.refl _ _).alloc (Nat.le_refl _) _).alloc (by simp) _
  have B1 : Box ((w.alloc (.cells #[.string (bs l), .int .i64 p, .bool neg, .bool tr] 25)).alloc (.cells #[.string ⟨#[]⟩, .int .i64 0, .bool false, .bool false] 25)) 25 (w.heap.size + 1) #[.string ⟨#[]⟩, .int .i64 0, .bool false, .bool false] := by
    have := Box.new (w.alloc (.cells #[.string (bs l), .int .i64 p, .bool neg, .bool tr] 25)) 25 #[.string ⟨#[]⟩, .int .i64 0, .bool false, .bool false]
    simpa using this
  have HW := Lib.hid hW
  have HB1 := Lib.hid B1
  clear hW B1
  go_enter Tryd.func11, Tryd.ntmps11
  go_wp2_with fail
  generalize (w.alloc (.cells #[.string (bs l), .int .i64 p, .bool neg, .bool tr] 25)).alloc (.cells #[.string ⟨#[]⟩, .int .i64 0, .bool false, .bool false] 25) = W at *
  refine (shift_gs l k p neg tr _ B HDg.out HBy.out hl (HC.out.later HW.out HC.out.2.1) p1 p2 k1 k2).mono ?_
  rintro e w3 ⟨L, P, tr2, hq, rfl, hb3⟩
  have HQ := Lib.hid hq
  clear hq
  have K0 := HB1.out.later hb3 HB1.out.lt
  have HL3 := Lib.hid (HW.out.trans (hb3.mono HW.out.size))
  have HK := Lib.hid K0
  clear hb3 K0
  have r0 : w3.cell? ⟨w.heap.size + 1, 0, none⟩ = some (.string ⟨#[]⟩) := by rw [HK.out.cell 0]; rfl
  have r1 : w3.cell? ⟨w.heap.size + 1, 1, none⟩ = some (.int .i64 0) := by rw [HK.out.cell 1]; rfl
  have r2 : w3.cell? ⟨w.heap.size + 1, 2, none⟩ = some (.bool false) := by rw [HK.out.cell 2]; rfl
  have r3 : w3.cell? ⟨w.heap.size + 1, 3, none⟩ = some (.bool false) := by rw [HK.out.cell 3]; rfl
  have f0 : w3.frozen? ⟨w.heap.size + 1, 0, none⟩ = false := HK.out.frozen 0
  have f1 : w3.frozen? ⟨w.heap.size + 1, 1, none⟩ = false := HK.out.frozen 1
  have f2 : w3.frozen? ⟨w.heap.size + 1, 2, none⟩ = false := HK.out.frozen 2
  have f3 : w3.frozen? ⟨w.heap.size + 1, 3, none⟩ = false := HK.out.frozen 3
  go_wp2_with fail
  have b1 := HK.out.set 0 (.string (bs L))
  have b2 := b1.set 1 (.int .i64 P)
  have b3 := b2.set 2 (.bool neg)
  have b4 := b3.set 3 (.bool tr2)
  have q0 := b1.cell 0
  have q1 := b2.cell 1
  have q2 := b3.cell 2
  have q3 := b4.cell 3
  have L4 := (((HL3.out.setCell (p := ⟨w.heap.size + 1, 0, none⟩) (Nat.le_succ _) (.string (bs L))).setCell (p := ⟨w.heap.size + 1, 1, none⟩) (Nat.le_succ _) (.int .i64 P)).setCell (p := ⟨w.heap.size + 1, 2, none⟩) (Nat.le_succ _) (.bool neg)).setCell (p := ⟨w.heap.size + 1, 3, none⟩) (Nat.le_succ _) (.bool tr2)
  exact bodyPost_ret (v := .agg #[.string (bs L), .int .i64 P, .bool neg, .bool tr2]) (by simp [results, Tryd.results11, go_sem, q0, q1, q2, q3]) rfl ⟨L, P, tr2, HQ.out, rfl, L4⟩
end Go.Proofs.YtfndpecffhempaaDoor
