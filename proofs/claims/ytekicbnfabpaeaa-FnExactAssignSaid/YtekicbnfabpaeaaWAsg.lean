/- The walk of FnExactAssign: the law returns true. -/
import Derived.Test.YtekicbnfabpaeaaWAsgA
namespace Go.Proofs.Ytekicbnfabpaeaa
open Go.RowKit

set_option maxHeartbeats 40000000 in
theorem walk_zero (w : World) :
    Calls Try.prog 13 #[.int .u64 0] w fun e w' => e = .returned (.bool true) ∧ Below w.heap.size w w' := by
  go_enter Try.func13, Try.ntmps13
  go_wp2_with fail
  refine (assignDecimal_out 0 _ (by omega)).mono ?_
  rintro e w2 ⟨rfl, hb2⟩
  have HB2 := Lib.hid hb2
  clear hb2
  have HBY := Lib.hid (digs_bytes (decL_digs 0))
  have HBH : Hid (Bytes (headL (decL 0))) := by show Bytes _; rw [decL_small (by omega)]; intro x hx; simp [headL] at hx
  have HHL : Hid ((headL (decL 0)).length ≤ 9223372036854775807) := by show _ ≤ _; rw [decL_small (by omega)]; simp [headL]
  have ht : ((bs (asgDigits 0)).toList == (bs (tailL (headL (decL 0)))).toList) = true := bs_eq (asg_tail 0)
  go_wp2_with fail
  have KB := Lib.hid (Box.new w2 57 #[.string (bs (asgDigits 0)), .int .i64 (asgPoint 0), .bool false, .bool false])
  have KL := Lib.hid (HB2.out.alloc HB2.out.size (.cells #[.string (bs (asgDigits 0)), .int .i64 (asgPoint 0), .bool false, .bool false] 57))
  generalize w2.alloc (.cells #[.string (bs (asgDigits 0)), .int .i64 (asgPoint 0), .bool false, .bool false] 57) = W at *
  generalize w2.heap.size = g at *
  have c0 : W.cell? ⟨g, 0, none⟩ = some (.string (bs (asgDigits 0))) := by rw [KB.out.cell 0]; rfl
  have c2 : W.cell? ⟨g, 2, none⟩ = some (.bool false) := by rw [KB.out.cell 2]; rfl
  have c3 : W.cell? ⟨g, 3, none⟩ = some (.bool false) := by rw [KB.out.cell 3]; rfl
  first
  | (go_region_with
      (first
      | (go_at_call 23; refine (dec_out _ _ (by omega) (by omega)).mono ?_; rintro e w4 ⟨rfl, hb4'⟩; have hb4 := undr hb4'; have d0 := (hb4.cell (p := ⟨g, 0, none⟩) KB.out.lt).trans c0; have d2 := (hb4.cell (p := ⟨g, 2, none⟩) KB.out.lt).trans c2; have d3 := (hb4.cell (p := ⟨g, 3, none⟩) KB.out.lt).trans c3; rw [show (0 : Int).toNat = 0 from rfl])
      | (go_at_call 27; refine (head_any _ _ HBY.out).mono ?_; rintro e w5 ⟨rfl, rfl⟩)
      | (go_at_call 33; refine (tail_any _ _ HBH.out HHL.out).mono ?_; rintro e w6 ⟨rfl, rfl⟩)))
  | fail
  all_goals
    have R := Lib.hid (KL.out.trans (hb4.mono KL.out.size))
    go_wp2_with fail
    go_ret
    exact ⟨rfl, R.out⟩

theorem walk_FnExactAssign (a0 : Int) (w0 : (Lit.int .u64 a0).wf = true) (w : World) :
    Calls Try.prog 13 #[.int .u64 a0] w fun e w' => e = .returned (.bool true) ∧ Below w.heap.size w w' := by
  have b0 := bounds_u64 w0
  obtain ⟨V, rfl⟩ := Int.eq_ofNat_of_zero_le b0.1
  by_cases h : V = 0
  · subst h; exact walk_zero w
  · exact walk_pos V (by omega) h w
end Go.Proofs.Ytekicbnfabpaeaa
