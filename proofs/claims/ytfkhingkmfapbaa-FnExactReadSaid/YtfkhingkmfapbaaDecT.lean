/- toDecimal of the thin exports, by a contract: a decimal as its digits, point, sign and mark. -/
import Derived.Test.YtfkhingkmfapbaaDecA
import Derived.StillTailTactics
namespace Go.Proofs.Ytfkhingkmfapbaa
open Go.RowKit

/-- the bytes of a decimal's digits as a text -/
theorem dec_convert {w : World} {b : Nat} {D : List Nat} {dp : Int} {neg tr : Bool} {nd : Int} (h : DecBox w b D nd dp neg tr) (n : Nat) (hn : n ≤ 800) :
    (convert 78 9 (.slice (some ⟨b, 0, none⟩) n 800)).run Try.prog w = .ok (.string (bs (D.take n))) w := by
  have hl : (D.take n).length = n := by rw [List.length_take, h.1]; omega
  have := run_convert_bytes_arg (P := Try.prog) w 78 5 Try.underlying78 Try.underlying5 b 0 n 800 ((D.take n).map fun (x : Nat) => (x : Int)) (by rw [List.length_map, hl])
    (by intro i hi
        rw [Nat.zero_add, h.at_ (by omega)]
        have hD : i < D.length := by rw [h.1]; omega
        congr 2
        simp [nth, List.getD_eq_getElem?_getD, hi, hD]) 9 Try.underlying9
  rw [this, bs_nums]

theorem len_array : Try.prog.arrayLen 93 = 800 := by kernel_rfl
theorem elem_array : Try.prog.elem 93 = 5 := by kernel_rfl
theorem info_u8 : (Try.prog.info? 5).map (fun i => (i.zero, i.size, i.bytes)) = some (some (.int .u8 0), 1, 1) := by kernel_rfl
theorem size_u8 (w : World) : (sizeOf 5).run Try.prog w = .ok 1 w := by
  obtain ⟨i, hi, _, h1, _⟩ := info_parts info_u8
  simp [sizeOf, typeInfo, hi, h1]
theorem under_array : Try.prog.underlying 93 = some (.array (Try.prog.arrayLen 93) (Try.prog.elem 93)) := by
  rw [len_array, elem_array]; exact Try.underlying93
theorem slice_dec (b n : Nat) (hn : n ≤ 800) (W : World) : (Instr.sliceAt 93 (.pointer (some ⟨b, 0, none⟩)) none (some (.int .i64 (n : Int))) none).run Try.prog W = .ok (.slice (some ⟨b, 0, none⟩) n 800) W := by
  rw [run_sliceAt_array_h W 93 ⟨b, 0, none⟩ under_array .i64 n (by omega) (by rw [len_array]; omega), elem_array, size_u8, len_array]
  simp [slicedAt, Result.andThen, Addr.add]

set_option maxHeartbeats 1000000 in
theorem toDecimal_any (b : Nat) (D : List Nat) (n : Nat) (dp : Int) (neg tr : Bool) (w : World) (h : DecBox w b D n dp neg tr) (hn : n ≤ 800) :
    Calls Try.prog 58 #[.pointer (some ⟨b, 0, none⟩)] w fun e w' => e = .returned (.agg #[.string (bs (D.take n)), .int .i64 dp, .bool neg, .bool tr]) ∧ Below w.heap.size w w' := by
  have H := Lib.hid h
  have hlt := h.lt
  go_enter Try.func58, Try.ntmps58
  go_wp2_with fail
  have H2 := Lib.hid (H.out.alloc (.cells #[.string ⟨#[]⟩, .int .i64 0, .bool false, .bool false] 69))
  have B2 := Lib.hid (Box.new w 69 #[.string ⟨#[]⟩, .int .i64 0, .bool false, .bool false])
  have L2 := Lib.hid (below_new w (.cells #[.string ⟨#[]⟩, .int .i64 0, .bool false, .bool false] 69))
  generalize w.alloc (.cells #[.string ⟨#[]⟩, .int .i64 0, .bool false, .bool false] 69) = W at *
  have c0 := H2.out.nd_
  have c1 := H2.out.dp_
  have c2 := H2.out.neg_
  have c3 := H2.out.tr_
  have hcv := dec_convert (w := W.drew) H2.out n hn
  have hsl := slice_dec b n hn W.drew
  have r0 : W.cell? ⟨w.heap.size, 0, none⟩ = some (.string ⟨#[]⟩) := by rw [B2.out.cell 0]; rfl
  have r1 : W.cell? ⟨w.heap.size, 1, none⟩ = some (.int .i64 0) := by rw [B2.out.cell 1]; rfl
  have r2 : W.cell? ⟨w.heap.size, 2, none⟩ = some (.bool false) := by rw [B2.out.cell 2]; rfl
  have r3 : W.cell? ⟨w.heap.size, 3, none⟩ = some (.bool false) := by rw [B2.out.cell 3]; rfl
  have f0 : W.frozen? ⟨w.heap.size, 0, none⟩ = false := B2.out.frozen 0
  have f1 : W.frozen? ⟨w.heap.size, 1, none⟩ = false := B2.out.frozen 1
  have f2 : W.frozen? ⟨w.heap.size, 2, none⟩ = false := B2.out.frozen 2
  have f3 : W.frozen? ⟨w.heap.size, 3, none⟩ = false := B2.out.frozen 3
  clear h
  go_region
  have b1 := B2.out.set 0 (.string (bs (D.take n)))
  have b2 := b1.set 1 (.int .i64 dp)
  have b3 := b2.set 2 (.bool neg)
  have b4 := b3.set 3 (.bool tr)
  have q0 : (W.setCell ⟨w.heap.size, 0, none⟩ (.string (bs (D.take n)))).cell? ⟨w.heap.size, 0, none⟩ = some (.string (bs (D.take n))) := by rw [b1.cell 0]; rfl
  have q1 : ((W.setCell ⟨w.heap.size, 0, none⟩ (.string (bs (D.take n)))).setCell ⟨w.heap.size, 1, none⟩ (.int .i64 dp)).cell? ⟨w.heap.size, 1, none⟩ = some (.int .i64 dp) := by rw [b2.cell 1]; rfl
  have q2 : (((W.setCell ⟨w.heap.size, 0, none⟩ (.string (bs (D.take n)))).setCell ⟨w.heap.size, 1, none⟩ (.int .i64 dp)).setCell ⟨w.heap.size, 2, none⟩ (.bool neg)).cell? ⟨w.heap.size, 2, none⟩ = some (.bool neg) := by rw [b3.cell 2]; rfl
  have q3 : ((((W.setCell ⟨w.heap.size, 0, none⟩ (.string (bs (D.take n)))).setCell ⟨w.heap.size, 1, none⟩ (.int .i64 dp)).setCell ⟨w.heap.size, 2, none⟩ (.bool neg)).setCell ⟨w.heap.size, 3, none⟩ (.bool tr)).cell? ⟨w.heap.size, 3, none⟩ = some (.bool tr) := by rw [b4.cell 3]; rfl
  have L3 := Lib.hid (((((L2.out.setCell (p := ⟨w.heap.size, 0, none⟩) (Nat.le_refl _) (.string (bs (D.take n)))).setCell (p := ⟨w.heap.size, 1, none⟩) (Nat.le_refl _) (.int .i64 dp)).setCell (p := ⟨w.heap.size, 2, none⟩) (Nat.le_refl _) (.bool neg)).setCell (p := ⟨w.heap.size, 3, none⟩) (Nat.le_refl _) (.bool tr)).drew)
  clear hcv hsl c0 c1 c2 c3 r0 r1 r2 r3 f0 f1 f2 f3 b1 b2 b3 b4
  go_wp2_with fail
  exact bodyPost_ret (v := .agg #[.string (bs (D.take n)), .int .i64 dp, .bool neg, .bool tr]) (by simp [results, Try.results58, go_sem, q0, q1, q2, q3]) rfl ⟨rfl, L3.out⟩
end Go.Proofs.Ytfkhingkmfapbaa
