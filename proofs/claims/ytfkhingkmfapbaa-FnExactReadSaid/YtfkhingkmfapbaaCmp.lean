/- Cmp of the reference, by a contract: the comparison of two ratios. Condition: the products have at most 1000000 digits to the base 2^32. -/
import Derived.Test.YtfkhingkmfapbaaTimes
namespace Go.Proofs.Ytfkhingkmfapbaa
open Go.RowKit

/-- the comparison of two ratios -/
def RatioIs (w : World) (v : Value) (num den : Nat) : Prop := ∃ vn vd, v = .agg #[vn, vd] ∧ IsNat w vn num ∧ IsNat w vd den
theorem RatioIs.later {w w' : World} {v : Value} {num den : Nat} (h : RatioIs w v num den) (hb : Below w.heap.size w w') : RatioIs w' v num den := by
  obtain ⟨vn, vd, h1, h2, h3⟩ := h
  exact ⟨vn, vd, h1, h2.later hb, h3.later hb⟩

set_option maxHeartbeats 1000000 in
theorem cmp_any (r s : Value) (a b c d : Nat) (w : World) (hr : RatioIs w r a b) (hs : RatioIs w s c d) (l1 : Num.len a + Num.len d ≤ 1000000) (l2 : Num.len c + Num.len b ≤ 1000000) :
    Calls Try.prog 14 #[r, s] w fun e w' => e = .returned (.int .i64 (cmpN (a * d) (c * b))) ∧ Below w.heap.size w w' := by
  obtain ⟨va, vb, rfl, ha, hb⟩ := hr
  obtain ⟨vc, vd, rfl, hc, hd⟩ := hs
  obtain ⟨Aa, ca, rfl, _, _⟩ := natLen_shape ha
  obtain ⟨Ab, cb, rfl, _, _⟩ := natLen_shape hb
  obtain ⟨Ac, cc, rfl, _, _⟩ := natLen_shape hc
  obtain ⟨Ad, cd, rfl, _, _⟩ := natLen_shape hd
  have HA := Lib.hid ha
  have HB := Lib.hid hb
  have HC := Lib.hid hc
  have HD := Lib.hid hd
  clear ha hb hc hd
  have hW : Below w.heap.size w ((w.alloc (.cells #[.slice Aa (Num.len a) ca, .slice Ab (Num.len b) cb] 31)).alloc (.cells #[.slice Ac (Num.len c) cc, .slice Ad (Num.len d) cd] 31)) :=
    ((Below.refl _ _).alloc (Nat.le_refl _) _).alloc (by simp) _
  have B0 : Box ((w.alloc (.cells #[.slice Aa (Num.len a) ca, .slice Ab (Num.len b) cb] 31)).alloc (.cells #[.slice Ac (Num.len c) cc, .slice Ad (Num.len d) cd] 31)) 31 w.heap.size #[.slice Aa (Num.len a) ca, .slice Ab (Num.len b) cb] := (Box.new w _ _).alloc _
  have B1 : Box ((w.alloc (.cells #[.slice Aa (Num.len a) ca, .slice Ab (Num.len b) cb] 31)).alloc (.cells #[.slice Ac (Num.len c) cc, .slice Ad (Num.len d) cd] 31)) 31 (w.heap.size + 1) #[.slice Ac (Num.len c) cc, .slice Ad (Num.len d) cd] := by
    have := Box.new (w.alloc (.cells #[.slice Aa (Num.len a) ca, .slice Ab (Num.len b) cb] 31)) 31 #[.slice Ac (Num.len c) cc, .slice Ad (Num.len d) cd]
    simpa using this
  have HW := Lib.hid hW
  have HB0 := Lib.hid B0
  have HB1 := Lib.hid B1
  clear hW B0 B1
  go_enter Try.func14, Try.ntmps14
  go_wp2_with fail
  generalize (w.alloc (.cells #[.slice Aa (Num.len a) ca, .slice Ab (Num.len b) cb] 31)).alloc (.cells #[.slice Ac (Num.len c) cc, .slice Ad (Num.len d) cd] 31) = W at *
  have c0 : W.cell? ⟨w.heap.size, 0, none⟩ = some (.slice Aa (Num.len a) ca) := by rw [HB0.out.cell 0]; rfl
  have c1 : W.cell? ⟨w.heap.size, 1, none⟩ = some (.slice Ab (Num.len b) cb) := by rw [HB0.out.cell 1]; rfl
  have c2 : W.cell? ⟨w.heap.size + 1, 0, none⟩ = some (.slice Ac (Num.len c) cc) := by rw [HB1.out.cell 0]; rfl
  have c3 : W.cell? ⟨w.heap.size + 1, 1, none⟩ = some (.slice Ad (Num.len d) cd) := by rw [HB1.out.cell 1]; rfl
  go_region_held3 (fun w' => w'.cell? ⟨w.heap.size, 0, none⟩ = some (.slice Aa (Num.len a) ca) ∧ w'.cell? ⟨w.heap.size, 1, none⟩ = some (.slice Ab (Num.len b) cb) ∧ w'.cell? ⟨w.heap.size + 1, 0, none⟩ = some (.slice Ac (Num.len c) cc) ∧ w'.cell? ⟨w.heap.size + 1, 1, none⟩ = some (.slice Ad (Num.len d) cd))
    (first | exact ⟨c0, c1, c2, c3⟩ | exact ⟨d0, d1, d2, d3⟩ | exact ⟨e0, e1, e2, e3⟩)
    (first
      | (go_at_call_of 38 (Value.slice Aa (Num.len a) ca); refine (natMul_any _ _ a d _ (HA.out.later HW.out.drew) (HD.out.later HW.out.drew) l1).mono ?_; rintro e' w4 ⟨v4, rfl, hv4, hb4'⟩; have hb4 := undrew hb4'; have d0 := (hb4.cell (p := ⟨w.heap.size, 0, none⟩) HB0.out.lt).trans c0; have d1 := (hb4.cell (p := ⟨w.heap.size, 1, none⟩) HB0.out.lt).trans c1; have d2 := (hb4.cell (p := ⟨w.heap.size + 1, 0, none⟩) HB1.out.lt).trans c2; have d3 := (hb4.cell (p := ⟨w.heap.size + 1, 1, none⟩) HB1.out.lt).trans c3)
      | (go_at_call_of 38 (Value.slice Ac (Num.len c) cc); refine (natMul_any _ _ c b _ ((HC.out.later HW.out).later hb4) ((HB.out.later HW.out).later hb4) l2).mono ?_; rintro e' w5 ⟨v5, rfl, hv5, hb5⟩; have hb6 := hb4.trans (hb5.mono hb4.size); have e0 := (hb6.cell (p := ⟨w.heap.size, 0, none⟩) HB0.out.lt).trans c0; have e1 := (hb6.cell (p := ⟨w.heap.size, 1, none⟩) HB0.out.lt).trans c1; have e2 := (hb6.cell (p := ⟨w.heap.size + 1, 0, none⟩) HB1.out.lt).trans c2; have e3 := (hb6.cell (p := ⟨w.heap.size + 1, 1, none⟩) HB1.out.lt).trans c3)
      | (go_at_call 29; refine (natCmp_any _ _ (a * d) (c * b) _ (hv4.later hb5) hv5).mono ?_; rintro e' w6 ⟨rfl, rfl⟩))
  all_goals
    have R := Lib.hid (HW.out.trans (hb6.mono HW.out.size))
    go_wp2_with fail
    go_ret
    exact ⟨rfl, R.out⟩
end Go.Proofs.Ytfkhingkmfapbaa
