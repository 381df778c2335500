/- The walk of FnExactAssign where the number is not 0. -/
import Derived.Test.YtekicbnfabpaeaaAsg
import Derived.Deep.RegionHeld3
namespace Go.Proofs.Ytekicbnfabpaeaa
open Go.RowKit

theorem undr {B : Nat} {w w' : World} (h : Below B w.drew w') : Below B w w' := ⟨h.os, h.tape, h.output, h.size, h.block⟩

set_option maxHeartbeats 2000000 in
theorem walk_pos (V : Nat) (hV : V < 18446744073709551616) (h0 : V ≠ 0) (w : World) :
    Calls Try.prog 13 #[.int .u64 V] w fun e w' => e = .returned (.bool true) ∧ Below w.heap.size w w' := by
  go_enter Try.func13, Try.ntmps13
  go_wp2_with fail
  refine (assignDecimal_out V _ hV).mono ?_
  rintro e w2 ⟨rfl, hb2⟩
  have HB2 := Lib.hid hb2
  clear hb2
  have hdl : (decL V).length ≤ 20 := decL_len_le (k := 19) (by omega)
  have HBY := Lib.hid (digs_bytes (decL_digs V))
  have HBH : Hid (Bytes (headL (decL V))) := by show Bytes _; rw [headL_dec h0]; exact HBY.out
  have HHL : Hid ((headL (decL V)).length ≤ 9223372036854775807) := by show _ ≤ _; rw [headL_dec h0]; omega
  have ht : ((bs (asgDigits V)).toList == (bs (tailL (headL (decL V)))).toList) = true := bs_eq (asg_tail V)
  have hv0 : ((V : Int) == 0) = false := by simp; omega
  have hpt : (asgPoint V == ((bs (decL V)).size : Int)) = true := by unfold asgPoint; rw [if_neg h0, bs_size]; simp
  have hVI : (V : Int) ≤ 18446744073709551615 := by omega
  clear h0 hdl
  go_wp2_with fail
  have KB := Lib.hid (Box.new w2 57 #[.string (bs (asgDigits V)), .int .i64 (asgPoint V), .bool false, .bool false])
  have KL := Lib.hid (HB2.out.alloc HB2.out.size (.cells #[.string (bs (asgDigits V)), .int .i64 (asgPoint V), .bool false, .bool false] 57))
  generalize w2.alloc (.cells #[.string (bs (asgDigits V)), .int .i64 (asgPoint V), .bool false, .bool false] 57) = W at *
  generalize w2.heap.size = g at *
  have c0 : W.cell? ⟨g, 0, none⟩ = some (.string (bs (asgDigits V))) := by rw [KB.out.cell 0]; rfl
  have c1 : W.cell? ⟨g, 1, none⟩ = some (.int .i64 (asgPoint V)) := by rw [KB.out.cell 1]; rfl
  have c2 : W.cell? ⟨g, 2, none⟩ = some (.bool false) := by rw [KB.out.cell 2]; rfl
  have c3 : W.cell? ⟨g, 3, none⟩ = some (.bool false) := by rw [KB.out.cell 3]; rfl
  have hdr : ∀ w' : World, Below W.heap.size W w' → w'.cell? ⟨g, 0, none⟩ = some (.string (bs (asgDigits V))) ∧ w'.cell? ⟨g, 1, none⟩ = some (.int .i64 (asgPoint V)) ∧ w'.cell? ⟨g, 2, none⟩ = some (.bool false) ∧ w'.cell? ⟨g, 3, none⟩ = some (.bool false) := fun w' hb =>
    ⟨(hb.cell (p := ⟨g, 0, none⟩) KB.out.lt).trans c0, (hb.cell (p := ⟨g, 1, none⟩) KB.out.lt).trans c1, (hb.cell (p := ⟨g, 2, none⟩) KB.out.lt).trans c2, (hb.cell (p := ⟨g, 3, none⟩) KB.out.lt).trans c3⟩
  have HDR := Lib.hid hdr
  clear hdr
  go_region_held3 (fun w' => w'.cell? ⟨g, 0, none⟩ = some (.string (bs (asgDigits V))) ∧ w'.cell? ⟨g, 1, none⟩ = some (.int .i64 (asgPoint V)) ∧ w'.cell? ⟨g, 2, none⟩ = some (.bool false) ∧ w'.cell? ⟨g, 3, none⟩ = some (.bool false))
    (first | exact ⟨c0, c1, c2, c3⟩ | exact HDR.out _ hb4 | exact HDR.out _ hb6)
    (first
      | (go_at_call 27; refine (head_any _ _ HBY.out).mono ?_; rintro e w5 ⟨rfl, rfl⟩)
      | (go_at_call 33; refine (tail_any _ _ HBH.out HHL.out).mono ?_; rintro e w6 ⟨rfl, rfl⟩)
      | (have tok := hb4; go_at_call 23; refine (dec_out _ _ (by omega) hVI).mono ?_; rintro e w7 ⟨rfl, hb7⟩; have hb6 := hb4.trans (hb7.mono hb4.size); rw [Int.toNat_natCast])
      | (go_at_call 23; refine (dec_out _ _ (by omega) hVI).mono ?_; rintro e w4 ⟨rfl, hb4'⟩; have hb4 := undr hb4'; rw [Int.toNat_natCast]))
  all_goals
    have R := Lib.hid (KL.out.trans (hb6.mono KL.out.size))
    go_wp2_with fail
    go_ret
    exact ⟨rfl, R.out⟩

end Go.Proofs.Ytekicbnfabpaeaa
