/- fromDecimal of the package, by a contract: a block that is the decimal number. -/
import Derived.Test.YtfkhingkmfapbaaDecT
import Derived.Lib.BufferWrite
import Derived.Deep.DeepCutAuto
namespace Go.Proofs.Ytfkhingkmfapbaa
open Go.RowKit

theorem slice_dec_all (b : Nat) (W : World) : (Instr.sliceAt 93 (.pointer (some ⟨b, 0, none⟩)) none none none).run Try.prog W = .ok (.slice (some ⟨b, 0, none⟩) 800 800) W := by
  rw [run_sliceAt_array_all W 93 ⟨b, 0, none⟩ under_array, elem_array, size_u8, len_array]
  simp [slicedAt, Result.andThen, Addr.add]
/-- l, and zeros up to 800 -/
def padL (l : List Nat) : List Nat := l ++ List.replicate (800 - l.length) 0
theorem padL_len {l : List Nat} (h : l.length ≤ 800) : (padL l).length = 800 := by simp [padL]; omega
theorem padL_bytes {l : List Nat} (h : Bytes l) : Bytes (padL l) := by
  intro x hx
  rcases List.mem_append.1 hx with h' | h'
  · exact h x h'
  · rw [List.mem_replicate] at h'; omega
theorem padL_take (l : List Nat) : (padL l).take l.length = l := by simp [padL]
theorem bs_list {l : List Nat} (h : Bytes l) : (bs l).data.toList.map (fun x => Value.int .u8 (x.toNat : Int)) = l.map fun (n : Nat) => Value.int .u8 (n : Int) := by
  rw [bs_data, List.map_map]
  apply List.map_congr_left
  intro x hx
  have := h x hx
  simp [Function.comp, Nat.mod_eq_of_lt this]
theorem decCells_size (D : List Nat) (nd dp : Int) (neg tr : Bool) : (decCells D nd dp neg tr).size = D.length + 4 := by simp [decCells]
theorem setRow_only (w : World) (b : Nat) (cs : Array Value) : Only b w (w.setRow b cs) := by
  refine ⟨rfl, rfl, rfl, by simp [World.setRow], fun k _ hne => ?_⟩
  have hk : b ≠ k := fun e => hne (by rw [e])
  simp [World.setRow, Array.getElem?_modify, hk]
/-- the copy of a text into the digits of a decimal -/
theorem copy_dec {w : World} {b : Nat} {D l : List Nat} {nd dp : Int} {neg tr : Bool} (h : DecBox w b D nd dp neg tr) (hB : Bytes l) (hl : l.length ≤ 800) (ty : TypeId) :
    ∃ w', (Builtin.copy_ #[78, 9] ty #[.slice (some ⟨b, 0, none⟩) 800 800, .string (bs l)]).run Try.prog w = .ok (.int .i64 (l.length : Int)) w' ∧ DecBox w' b (l ++ D.drop l.length) nd dp neg tr ∧ Only b w w' := by
  obtain ⟨h1, h2, h3⟩ := h
  have hsz := bs_size l
  have hc := Lib.run_copy_row_string (P := Try.prog) w 78 9 ty 5 b 0 800 800 (bs l) _ _ Try.underlying78 (by obtain ⟨i, hi, _, h1, _⟩ := info_parts info_u8; rw [hi]; simp [h1]) h3 (by omega) (by rw [hsz, decCells_size]; omega)
  refine ⟨_, by rw [hc, hsz]; rfl, ⟨by simp; omega, fun x hx => ?_, ?_⟩, setRow_only _ _ _⟩
  · rcases List.mem_append.1 hx with h' | h'
    · exact hB x h'
    · exact h2 x (List.mem_of_mem_drop h')
  · have eb : Lib.byteCells (bs l).data.toList = l.map fun (n : Nat) => Value.int .u8 (n : Int) := bs_list hB
    have ec : ((decCells D nd dp neg tr).toList.take 0 ++ Lib.byteCells (bs l).data.toList ++ (decCells D nd dp neg tr).toList.drop (0 + l.length)).toArray = decCells (l ++ D.drop l.length) nd dp neg tr := by
      rw [eb]
      unfold decCells
      simp only [List.take_zero, List.nil_append, Nat.zero_add]
      rw [List.drop_append_of_le_length (by rw [List.length_map]; omega), ← List.map_drop, List.map_append, List.append_assoc]
    rw [ec]
    exact setRow_heap w b _ _ _ _ h3
theorem padL_eq (l : List Nat) : l ++ (List.replicate 800 0).drop l.length = padL l := by rw [List.drop_replicate]; rfl

set_option maxHeartbeats 1000000 in
set_option maxRecDepth 100000 in
theorem fromDecimal_any (l : List Nat) (p : Int) (neg tr : Bool) (w : World) (hB : Bytes l) (hl : l.length ≤ 800) :
    Calls Try.prog 56 #[.agg #[.string (bs l), .int .i64 p, .bool neg, .bool tr]] w fun e w' => ∃ b, e = .returned (.pointer (some ⟨b, 0, none⟩)) ∧ w.heap.size ≤ b ∧ DecBox w' b (padL l) l.length p neg tr ∧ Below w.heap.size w w' := by
  have hsz := bs_size l
  have D0 := DecBox.new (w.alloc (.cells #[.string (bs l), .int .i64 p, .bool neg, .bool tr] 69))
  have B0 := (Box.new w 69 #[.string (bs l), .int .i64 p, .bool neg, .bool tr]).alloc (.cells Try.zeroCells95 95)
  have L0 := (below_new w (.cells #[.string (bs l), .int .i64 p, .bool neg, .bool tr] 69)).alloc (by simp) (.cells Try.zeroCells95 95)
  rw [show (w.alloc (.cells #[.string (bs l), .int .i64 p, .bool neg, .bool tr] 69)).heap.size = w.heap.size + 1 from by simp] at D0
  have HD := Lib.hid D0
  have HB := Lib.hid B0
  have HL := Lib.hid L0
  clear D0 B0 L0
  go_enter Try.func56, Try.ntmps56
  go_upto_region 2 with fail
  generalize (w.alloc (.cells #[.string (bs l), .int .i64 p, .bool neg, .bool tr] 69)).alloc (.cells Try.zeroCells95 95) = W at *
  obtain ⟨W2, hcp, hd2, ho2⟩ := copy_dec HD.out.drew hB hl 3
  rw [padL_eq] at hd2
  have hsl := slice_dec_all (w.heap.size + 1) W.drew
  have c0 : W.cell? ⟨w.heap.size, 0, none⟩ = some (.string (bs l)) := by rw [HB.out.cell 0]; rfl
  have n0 := hd2.nd_
  have f0 := hd2.free 800
  have HD2 := Lib.hid hd2
  have HO2 := Lib.hid ho2
  clear hd2 ho2 hB
  go_region
  have hd3 := HD2.out.setNd (l.length : Int)
  have ho3 := HO2.out.setCell 800 (.int .i64 (l.length : Int))
  have hk3 : Box (W2.setCell ⟨w.heap.size + 1, 800, none⟩ (.int .i64 (l.length : Int))) 69 w.heap.size #[.string (bs l), .int .i64 p, .bool neg, .bool tr] := (ho3.block w.heap.size HB.out.lt (by simp)).trans HB.out
  have HD3 := Lib.hid hd3
  have HO3 := Lib.hid ho3
  have HK3 := Lib.hid hk3
  clear hd3 ho3 hk3 hcp hsl n0 f0 c0
  go_upto_region 3 with fail
  generalize W2.setCell ⟨w.heap.size + 1, 800, none⟩ (.int .i64 (l.length : Int)) = W3 at *
  have c1 : W3.cell? ⟨w.heap.size, 1, none⟩ = some (.int .i64 p) := by rw [HK3.out.cell 1]; rfl
  have c2 : W3.cell? ⟨w.heap.size, 2, none⟩ = some (.bool neg) := by rw [HK3.out.cell 2]; rfl
  have c3 : W3.cell? ⟨w.heap.size, 3, none⟩ = some (.bool tr) := by rw [HK3.out.cell 3]; rfl
  have n1 := HD3.out.dp_
  have n2 := HD3.out.neg_
  have n3 := HD3.out.tr_
  have f1 := HD3.out.free 801
  have f2 := HD3.out.free 802
  have f3 := HD3.out.free 803
  go_region
  have R := Lib.hid (((HD3.out.setDp p).setNeg neg).setTr tr).drew
  have RO := Lib.hid (((HO3.out.setCell 801 (.int .i64 p)).setCell 802 (.bool neg)).setCell 803 (.bool tr)).drew
  clear c1 c2 c3 n1 n2 n3 f1 f2 f3
  generalize (((W3.setCell ⟨w.heap.size + 1, 801, none⟩ (.int .i64 p)).setCell ⟨w.heap.size + 1, 802, none⟩ (.bool neg)).setCell ⟨w.heap.size + 1, 803, none⟩ (.bool tr)).drew = W4 at *
  go_wp2_with fail
  go_ret
  refine ⟨w.heap.size + 1, rfl, by omega, R.out, HL.out.trans ?_⟩
  have hz := RO.out.below (B := w.heap.size) (by omega) HL.out.size
  exact ⟨hz.os, hz.tape, hz.output, hz.size, hz.block⟩
end Go.Proofs.Ytfkhingkmfapbaa
