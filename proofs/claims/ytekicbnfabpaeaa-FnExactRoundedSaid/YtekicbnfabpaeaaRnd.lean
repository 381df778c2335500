/- The five ways to round an unrounded number, by contracts. Condition: the number is below 1 << 63. -/
import Derived.Test.YtekicbnfabpaeaaUns
import Derived.OpenShut
namespace Go.Proofs.Ytekicbnfabpaeaa
open Go.RowKit

theorem and_one_int (U : Int) (h0 : 0 ≤ U) (h1 : U ≤ 18446744073709551615) : bits BinOp.and IntKind.u64 U 1 = U % 2 := and_one_u64 U h0 h1

/-- five numbers in memory of the call's own -/
def RndPost (U : Int) (w : World) (e : Ending) (w' : World) : Prop :=
  ∃ g, e = .returned (.slice (some ⟨g, 0, none⟩) 5 5) ∧ w'.cell? ⟨g, 0, none⟩ = some (.int .u64 (U / 4)) ∧ w'.cell? ⟨g, 1, none⟩ = some (.int .u64 ((U + 1) / 4)) ∧
    w'.cell? ⟨g, 2, none⟩ = some (.int .u64 ((U + 1 + U / 4 % 2) / 4)) ∧ w'.cell? ⟨g, 3, none⟩ = some (.int .u64 ((U + 2) / 4)) ∧ w'.cell? ⟨g, 4, none⟩ = some (.int .u64 ((U + 3) / 4)) ∧
    g < w'.heap.size ∧ Below w.heap.size w w'
theorem rounded_in (U : Int) (w : World) (h0 : 0 ≤ U) (h1 : U ≤ 9223372036854775807) : Calls Try.prog 20 #[.int .u64 U] w (RndPost U w) := by
  have ha := and_one_int (U / 4) (by omega) (by omega)
  go_enter Try.func20, Try.ntmps20
  go_wp2
  go_ret
  refine ⟨w.heap.size + 1, rfl, ?_, ?_, ?_, ?_, ?_, ?_, ((Below.refl _ _).alloc (Nat.le_refl _) _).alloc (by simp) _⟩ <;> simp [go_sem]

/-- the law's closure: n, or n + 1 -/
theorem up_any (b : Bool) (g : Nat) (N : Int) (w : World) (hc : w.cell? ⟨g, 0, none⟩ = some (.int .u64 N)) (h0 : 0 ≤ N) (h1 : N ≤ 9223372036854775807) :
    Calls Try.prog 21 #[.bool b, .pointer (some ⟨g, 0, none⟩)] w fun e w' => e = .returned (.int .u64 (if b then N + 1 else N)) ∧ w = w' := by
  cases b
  all_goals
    go_enter Try.func21, Try.ntmps21
    go_wp2
    go_ret
    exact ⟨rfl, rfl⟩

theorem and_eq (x : Int) (h0 : 0 ≤ x) (h1 : x ≤ 18446744073709551615) (b : Bool) (h : x % 2 = (if b then 1 else 0)) : (bits BinOp.and IntKind.u64 x 1 == 1) = b := by
  rw [and_one_int x h0 h1, h]
  cases b <;> rfl

set_option maxHeartbeats 16000000 in
theorem walk_FnExactRounded (a0 : Int) (w0 : (Lit.int .u64 a0).wf = true) (w : World) :
    Calls Try.prog 6 #[.int .u64 a0] w fun e w' => e = .returned (.bool true) ∧ Below w.heap.size w w' := by
  have b0 := bounds_u64 w0
  clear w0
  have hU0 : 0 ≤ a0 / 2 := by omega
  have hU1 : a0 / 2 ≤ 9223372036854775807 := by omega
  go_enter Try.func6, Try.ntmps6
  go_wp2_with fail
  generalize a0 / 2 = U at *
  refine (rounded_in U _ hU0 hU1).mono ?_
  rintro e' w1 ⟨g, rfl, c0, c1, c2, c3, c4, hg, hb⟩
  have HB := Lib.hid hb
  clear hb
  have d0 : (w1.alloc (.cells #[.int .u64 (U / 4)] 27)).cell? ⟨g, 0, none⟩ = some (.int .u64 (U / 4)) := by rw [World.cell?_alloc_lt _ _ _ hg]; exact c0
  have d1 : (w1.alloc (.cells #[.int .u64 (U / 4)] 27)).cell? ⟨g, 1, none⟩ = some (.int .u64 ((U + 1) / 4)) := by rw [World.cell?_alloc_lt _ _ _ hg]; exact c1
  have d2 : (w1.alloc (.cells #[.int .u64 (U / 4)] 27)).cell? ⟨g, 2, none⟩ = some (.int .u64 ((U + 1 + U / 4 % 2) / 4)) := by rw [World.cell?_alloc_lt _ _ _ hg]; exact c2
  have d3 : (w1.alloc (.cells #[.int .u64 (U / 4)] 27)).cell? ⟨g, 3, none⟩ = some (.int .u64 ((U + 2) / 4)) := by rw [World.cell?_alloc_lt _ _ _ hg]; exact c3
  have d4 : (w1.alloc (.cells #[.int .u64 (U / 4)] 27)).cell? ⟨g, 4, none⟩ = some (.int .u64 ((U + 3) / 4)) := by rw [World.cell?_alloc_lt _ _ _ hg]; exact c4
  have dn : (w1.alloc (.cells #[.int .u64 (U / 4)] 27)).cell? ⟨w1.heap.size, 0, none⟩ = some (.int .u64 (U / 4)) := by simp [go_sem]
  have HB2 := Lib.hid (HB.out.alloc HB.out.size (.cells #[.int .u64 (U / 4)] 27))
  clear c0 c1 c2 c3 c4
  obtain ⟨bh, hh⟩ : ∃ b : Bool, U / 2 % 2 = (if b then 1 else 0) := by
    rcases (show U / 2 % 2 = 1 ∨ U / 2 % 2 = 0 by omega) with h | h
    · exact ⟨true, by simpa using h⟩
    · exact ⟨false, by simpa using h⟩
  obtain ⟨bm, hm⟩ : ∃ b : Bool, U % 2 = (if b then 1 else 0) := by
    rcases (show U % 2 = 1 ∨ U % 2 = 0 by omega) with h | h
    · exact ⟨true, by simpa using h⟩
    · exact ⟨false, by simpa using h⟩
  obtain ⟨bo, ho⟩ : ∃ b : Bool, U / 4 % 2 = (if b then 1 else 0) := by
    rcases (show U / 4 % 2 = 1 ∨ U / 4 % 2 = 0 by omega) with h | h
    · exact ⟨true, by simpa using h⟩
    · exact ⟨false, by simpa using h⟩
  have th := and_eq (U / 2) (by omega) (by omega) bh hh
  have tm := and_eq U (by omega) (by omega) bm hm
  have to := and_eq (U / 4) (by omega) (by omega) bo ho
  have q1 : ((U + 1) / 4 == (if bh && bm then U / 4 + 1 else U / 4)) = true := by cases bh <;> cases bm <;> simp at hh hm ⊢ <;> omega
  have q2 : ((U + 1 + U / 4 % 2) / 4 == (if bh && (bm || bo) then U / 4 + 1 else U / 4)) = true := by cases bh <;> cases bm <;> cases bo <;> simp at hh hm ho ⊢ <;> omega
  have q3 : ((U + 2) / 4 == (if bh then U / 4 + 1 else U / 4)) = true := by cases bh <;> simp at hh ⊢ <;> omega
  have q4 : ((U + 3) / 4 == (if bh || bm then U / 4 + 1 else U / 4)) = true := by cases bh <;> cases bm <;> simp at hh hm ⊢ <;> omega
  clear hh hm ho
  have hN0 : 0 ≤ U / 4 := by omega
  have hN1 : U / 4 ≤ 9223372036854775807 := by omega
  go_wp2_with fail
  generalize w1.alloc (.cells #[.int .u64 (U / 4)] 27) = W at *
  cases bh <;> cases bm <;> cases bo
  all_goals
    simp only [Bool.and_true, Bool.and_false, Bool.or_true, Bool.or_false, if_true, if_false, Bool.false_eq_true] at q1 q2 q3 q4
    go_quiet ((go_at_call 21; exact hush (up_any _ _ _ _ dn hN0 hN1)))
    go_wp2_with fail
    go_ret
    exact ⟨rfl, HB2.out.trans ⟨rfl, rfl, rfl, Nat.le_refl _, fun _ _ => rfl⟩⟩
end Go.Proofs.Ytekicbnfabpaeaa
