/- The walk of FnShiftSum: the law returns true. Written by gen_wss.py. -/
import Derived.Test.YtfndpecffhempaaDoorWShf
import Derived.Deep.RegionHeld
namespace Go.Proofs.YtfndpecffhempaaDoor
open Go.RowKit

theorem tdiv_two {a : Int} (h0 : -128 ≤ a) (h1 : a ≤ 127) : -64 ≤ a.tdiv 2 ∧ a.tdiv 2 ≤ 63 := by
  rcases Int.le_total 0 a with h | h
  · rw [Int.tdiv_eq_ediv_of_nonneg h]; omega
  · have e : a.tdiv 2 = -((-a).tdiv 2) := by rw [Int.neg_tdiv, Int.neg_neg]
    rw [e, Int.tdiv_eq_ediv_of_nonneg (by omega)]; omega
theorem Box.facts4 {w : World} {t : TypeId} {b : Nat} {v0 v1 v2 v3 : Value} (h : Box w t b #[v0, v1, v2, v3]) : (w.cell? ⟨b, 0, none⟩ = some v0 ∧ w.cell? ⟨b, 1, none⟩ = some v1 ∧ w.cell? ⟨b, 2, none⟩ = some v2 ∧ w.cell? ⟨b, 3, none⟩ = some v3) ∧ (w.frozen? ⟨b, 0, none⟩ = false ∧ w.frozen? ⟨b, 1, none⟩ = false ∧ w.frozen? ⟨b, 2, none⟩ = false ∧ w.frozen? ⟨b, 3, none⟩ = false) ∧ b < w.heap.size ∧ w.heap.size ≠ b ∧ b ≠ w.heap.size :=
  ⟨⟨by rw [h.cell 0]; rfl, by rw [h.cell 1]; rfl, by rw [h.cell 2]; rfl, by rw [h.cell 3]; rfl⟩, ⟨h.frozen 0, h.frozen 1, h.frozen 2, h.frozen 3⟩, h.lt, Nat.ne_of_gt h.lt, Nat.ne_of_lt h.lt⟩

theorem held_names {P : Program} {md : Region.Mode} {ops : Array Oper} {Q : Exit → Act → World → Prop} {S : World → Prop} {fuel : Nat} {listed : Array Bool} {tm : Array Value} {df : List Deferred} {w : World}
    (k : ∀ ops', ops' = ops → ∀ Q', Q' = Q → ∀ tm', tm' = tm → ∀ S', S' = S → wpAnyH P md ops' Q' S' fuel listed { tmps := tm', defers := df } w) : wpAnyH P md ops Q S fuel listed { tmps := tm, defers := df } w := k _ rfl _ rfl _ rfl _ rfl

set_option maxHeartbeats 4000000 in
set_option maxRecDepth 100000 in
theorem walk_FnShiftSum (s : ByteArray) (a1 : Int) (neg : Bool) (a3 a4 : Int) (w0 : s.size ≤ maxLen) (w1 : (Lit.int .i16 a1).wf = true) (w3 : (Lit.int .i8 a3).wf = true) (w4 : (Lit.int .i8 a4).wf = true) (w : World) (hT : Cheat w w.heap.size) :
    Calls Tryd.prog 5 #[.string s, .int .i16 a1, .bool neg, .int .i8 a3, .int .i8 a4] w fun e w' => e = .returned (.bool true) ∧ Below w.heap.size w w' := by
  obtain ⟨l0, rfl, hB, hsz'⟩ := bs_of s
  have hsz := bs_size l0
  have b1 := bounds_i16 w1
  have b3 := bounds_i8 w3
  have b4 := bounds_i8 w4
  clear w0 w1 w3 w4
  have HBy := Lib.hid hB
  have HC := Lib.hid hT
  by_cases hbig : 2147483647 < l0.length
  · have hbig' : (2147483647 : Int) < (l0.length : Int) := by omega
    clear hT hB hsz'
    go_enter Tryd.func5, Tryd.ntmps5
    go_wp2_with fail
    go_ret
    exact ⟨rfl, Below.refl _ _⟩
  · have hbig' : ¬ (2147483647 : Int) < (l0.length : Int) := by omega
    have HDg := Lib.hid (sdL_digs l0)
    have HLn := Lib.hid (sdL_len l0)
    have HTd := Lib.hid (sd_tidy l0 a1)
    have HPb := Lib.hid (sdP_bounds l0 a1)
    clear hT hB hsz'
    obtain ⟨ha0, ha1⟩ := tdiv_two b3.1 b3.2
    obtain ⟨hb0, hb1⟩ := tdiv_two b4.1 b4.2
    obtain ⟨a, ea⟩ : ∃ a, a3.tdiv 2 = a := ⟨_, rfl⟩
    obtain ⟨b, eb⟩ : ∃ b, a4.tdiv 2 = b := ⟨_, rfl⟩
    rw [ea] at ha0 ha1
    rw [eb] at hb0 hb1
    go_enter Tryd.func5, Tryd.ntmps5
    go_wp2_with fail
    refine (sdecimal_any l0 a1 neg _ HBy.out (by omega) (by omega) (by omega)).mono ?_
    rintro e w2 ⟨rfl, hb2⟩
    generalize sdL l0 = l at *
    generalize sdP l0 a1 = p at *
    have hl := HLn.out
    obtain ⟨p0, p1⟩ := HPb.out
    have HB2 := Lib.hid (hb2.alloc hb2.size (.cells #[.string (bs l), .int .i64 p, .bool neg, .bool false] 25))
    have HK2 := Lib.hid (Box.new w2 25 #[.string (bs l), .int .i64 p, .bool neg, .bool false])
    clear hb2
    go_upto_region 5 with fail
    clear ea eb
    generalize w2.alloc (.cells #[.string (bs l), .int .i64 p, .bool neg, .bool false] 25) = W2 at *
    generalize w2.heap.size = g at *
    have S : Hid (∀ w' : World, Below W2.heap.size W2 w' → w'.cell? ⟨g, 0, none⟩ = some (.string (bs l)) ∧ w'.cell? ⟨g, 1, none⟩ = some (.int .i64 p) ∧ w'.cell? ⟨g, 2, none⟩ = some (.bool neg) ∧ w'.cell? ⟨g, 3, none⟩ = some (.bool false)) := fun w' hb => by
      have k3 := HK2.out.later hb HK2.out.lt
      exact ⟨by rw [k3.cell 0]; rfl, by rw [k3.cell 1]; rfl, by rw [k3.cell 2]; rfl, by rw [k3.cell 3]; rfl⟩
    obtain ⟨c0, c1, c2, c3⟩ := S.out W2 (Below.refl _ _)
    have hl8 : l.length ≤ 800 := by omega
    have pp0 : -2600 ≤ p := by omega
    have pp1 : p ≤ 2600 := by omega
    have aa0 : -1140 ≤ a := by omega
    have aa1 : a ≤ 1140 := by omega
    have bb0 : -1140 ≤ b := by omega
    have bb1 : b ≤ 1140 := by omega
    have cc0 : -1140 ≤ a + b := by omega
    have cc1 : a + b ≤ 1140 := by omega
    have X1 : Hid (∀ (L1 : List Nat) (P1 : Int) (tr1 : Bool), ShK l p false a L1 P1 tr1 → tr1 = false ∧ Tidy L1 P1 ∧ L1.length ≤ 800 ∧ -2600 ≤ P1 ∧ P1 ≤ 2600) := fun L1 P1 tr1 hq => by
      obtain ⟨y1, y2, y3, y4, y5, _, _⟩ := shK_exact hq HTd.out (by omega) (by omega) (by omega) (by omega) (by omega)
      exact ⟨y1, y5, by omega, by omega, by omega⟩
    have hwab : IntKind.i64.wrap (a + b) = a + b := IntWalk.i64_in _ (by omega)
    have sz2 : W2.heap.size ≤ W2.heap.size := Nat.le_refl _
    refine wp_region_held_drew (S := fun w' => (w'.cell? ⟨g, 0, none⟩ = some (.string (bs l)) ∧ w'.cell? ⟨g, 1, none⟩ = some (.int .i64 p) ∧ w'.cell? ⟨g, 2, none⟩ = some (.bool neg) ∧ w'.cell? ⟨g, 3, none⟩ = some (.bool false)) ∧ Hid (Below W2.heap.size W2 w')) (by kernel_rfl) ?_ (fun hHeld => ?_)
    · exact ⟨⟨c0, c1, c2, c3⟩, (Below.refl _ _).drew⟩
    refine wpAnyH_take (i := 0) (v := ?_) rfl (by kernel_rfl) (by kernel_rfl) (by kernel_rfl) (fun _ _ _ h => h) (Or.inl ⟨by rfl, ?_⟩) (by assumption) ?_
    rotate_left
    · intro w' hSw
      (try dsimp only at hSw)
      go_simp
      (try with_reducible rfl)
    (try simp only [Act.put, List.getElem_toArray, List.getElem_cons_zero, List.setIfInBounds_toArray, List.set_cons_zero, List.set_cons_succ])
    refine wpAnyH_take (i := 1) (v := ?_) rfl (by kernel_rfl) (by kernel_rfl) (by kernel_rfl) (fun _ _ _ h => h) (Or.inl ⟨by rfl, ?_⟩) (by assumption) ?_
    rotate_left
    · intro w' hSw
      (try dsimp only at hSw)
      go_simp
      (try with_reducible rfl)
    (try simp only [Act.put, List.getElem_toArray, List.getElem_cons_zero, List.getElem_cons_succ, List.setIfInBounds_toArray, List.set_cons_zero, List.set_cons_succ])
    refine wpAnyH_take (i := 3) (v := ?_) rfl (by kernel_rfl) (by kernel_rfl) (by kernel_rfl) (fun _ _ _ h => h) (Or.inl ⟨by rfl, ?_⟩) (by assumption) ?_
    rotate_left
    · intro w' hSw
      (try dsimp only at hSw)
      go_simp
      (try with_reducible rfl)
    (try simp only [Act.put, List.getElem_toArray, List.getElem_cons_zero, List.getElem_cons_succ, List.setIfInBounds_toArray, List.set_cons_zero, List.set_cons_succ])
    refine wpAnyH_take (i := 5) (v := ?_) rfl (by kernel_rfl) (by kernel_rfl) (by kernel_rfl) (fun _ _ _ h => h) (Or.inl ⟨by rfl, ?_⟩) (by assumption) ?_
    rotate_left
    · intro w' hSw
      (try dsimp only at hSw)
      go_simp
      (try with_reducible rfl)
    (try simp only [Act.put, List.getElem_toArray, List.getElem_cons_zero, List.getElem_cons_succ, List.setIfInBounds_toArray, List.set_cons_zero, List.set_cons_succ])
    refine wpAnyH_take (i := 6) (v := ?_) rfl (by kernel_rfl) (by kernel_rfl) (by kernel_rfl) (fun _ _ _ h => h) (Or.inl ⟨by rfl, ?_⟩) (by assumption) ?_
    rotate_left
    · intro w' hSw
      (try dsimp only at hSw)
      go_simp
      (try with_reducible rfl)
    (try simp only [Act.put, List.getElem_toArray, List.getElem_cons_zero, List.getElem_cons_succ, List.setIfInBounds_toArray, List.set_cons_zero, List.set_cons_succ])
    refine wpAnyH_take (i := 7) (v := ?_) rfl (by kernel_rfl) (by kernel_rfl) (by kernel_rfl) (fun _ _ _ h => h) (Or.inl ⟨by rfl, ?_⟩) (by assumption) ?_
    rotate_left
    · intro w' hSw
      (try dsimp only at hSw)
      go_simp
      (try with_reducible rfl)
    (try simp only [Act.put, List.getElem_toArray, List.getElem_cons_zero, List.getElem_cons_succ, List.setIfInBounds_toArray, List.set_cons_zero, List.set_cons_succ])
    refine wpAnyH_take (i := 8) (v := ?_) rfl (by kernel_rfl) (by kernel_rfl) (by kernel_rfl) (fun _ _ _ h => h) (Or.inl ⟨by rfl, ?_⟩) (by assumption) ?_
    rotate_left
    · intro w' hSw
      (try dsimp only at hSw)
      go_simp
      (try with_reducible rfl)
    (try simp only [Act.put, List.getElem_toArray, List.getElem_cons_zero, List.getElem_cons_succ, List.setIfInBounds_toArray, List.set_cons_zero, List.set_cons_succ])
    change wpAnyH _ _ _ _ _ 7 #[true, true, false, true, false, true, true, true, true, false, false, false, false, false] _ _
    refine held_names fun ops hops Q hQ tm htm SX hSX => ?_
    have HSX : ∀ w', Hid (Below W2.heap.size W2 w') → SX w' := fun w' hb => by rw [hSX]; exact ⟨S.out _ hb.out, hb⟩
    clear c0 c1 c2 c3 hHeld
    have HEND : Hid (∀ (L1 : List Nat) (P1 : Int) (q1 : Hid (ShK l p false a L1 P1 false)) (L2 : List Nat) (P2 : Int) (tr2 : Bool) (q2 : Hid (ShK L1 P1 false b L2 P2 tr2)) (L3 : List Nat) (P3 : Int) (tr3 : Bool) (q3 : Hid (ShK l p false (a + b) L3 P3 tr3)) (wx : World) (hb : Hid (Below W2.heap.size W2 wx)) (h1 : Nat) (g1 : W2.heap.size ≤ h1) (k1 : Hid (Box wx 25 h1 #[.string (bs L2), .int .i64 P2, .bool neg, .bool tr2])) (h2 : Nat) (g2 : W2.heap.size ≤ h2) (k2 : Hid (Box wx 25 h2 #[.string (bs L3), .int .i64 P3, .bool neg, .bool tr3])) (hne : h1 ≠ h2), Q .normal { tmps := (((((tm.setIfInBounds 31 (.agg #[.string (bs L1), .int .i64 P1, .bool neg, .bool false])).setIfInBounds 33 (.agg #[.string (bs L2), .int .i64 P2, .bool neg, .bool tr2])).setIfInBounds 38 (.agg #[.string (bs L3), .int .i64 P3, .bool neg, .bool tr3])).setIfInBounds 14 (.pointer (some ⟨h1, 0, none⟩))).setIfInBounds 15 (.pointer (some ⟨h2, 0, none⟩))), defers := [] } wx) := by
      intro L1 P1 q1 L2 P2 tr2 q2 L3 P3 tr3 q3 wx hb h1 g1 k1 h2 g2 k2 hne
      as_aux_lemma =>
        subst hQ htm
        clear hops hSX HSX ops SX
        simp only [List.setIfInBounds_toArray, List.set_cons_zero, List.set_cons_succ]
        obtain ⟨rfl, rfl, hLL⟩ := shK_sum q1.out q2.out q3.out HTd.out (by omega) (by omega) (by omega) (by omega) (by omega) (by omega) (by omega)
        have RB := Lib.hid (HB2.out.trans (hb.out.mono HB2.out.size))
        obtain ⟨s0, s1, s2, s3⟩ := S.out wx hb.out
        obtain ⟨⟨d0, d1, d2, d3⟩, _⟩ := k1.out.facts4
        obtain ⟨⟨f0, f1, f2, f3⟩, _⟩ := k2.out.facts4
        have hE : ((bs L2).toList == (bs L2).toList) = true := by simp
        have hP : (P2 == P2) = true := by simp
        have E1 := bs_isEmpty l
        have E2 := bs_isEmpty L2
        by_cases hl0 : l.length = 0
        · rw [decide_eq_true hl0] at E1
          rw [decide_eq_true (hLL.1 hl0)] at E2
          clear hl0 hLL q1 q2 q3 hne
          go_wp2_with fail
          go_ret
          exact ⟨by simp, RB.out⟩
        · rw [decide_eq_false hl0] at E1
          rw [decide_eq_false (fun h => hl0 (hLL.2 h))] at E2
          clear hl0 hLL q1 q2 q3 hne
          go_wp2_with fail
          go_ret
          exact ⟨by simp, RB.out⟩
    have T3112 : Hid (∀ (L1 : List Nat) (P1 : Int) (q1 : Hid (ShK l p false a L1 P1 false)) (L2 : List Nat) (P2 : Int) (tr2 : Bool) (q2 : Hid (ShK L1 P1 false b L2 P2 tr2)) (L3 : List Nat) (P3 : Int) (tr3 : Bool) (q3 : Hid (ShK l p false (a + b) L3 P3 tr3)) (wx : World) (hb : Hid (Below W2.heap.size W2 wx)) (h1 : Nat) (g1 : W2.heap.size ≤ h1) (k1 : Hid (Box wx 25 h1 #[.string (bs L2), .int .i64 P2, .bool neg, .bool tr2])) (h2 : Nat) (g2 : W2.heap.size ≤ h2) (k2 : Hid (Box wx 25 h2 #[.string (bs L3), .int .i64 P3, .bool neg, .bool tr3])) (hne : h1 ≠ h2), wpAnyH Tryd.prog .any ops Q SX 0 #[true, true, true, true, true, true, true, true, true, true, true, true, true, true] { tmps := (((((tm.setIfInBounds 31 (.agg #[.string (bs L1), .int .i64 P1, .bool neg, .bool false])).setIfInBounds 33 (.agg #[.string (bs L2), .int .i64 P2, .bool neg, .bool tr2])).setIfInBounds 38 (.agg #[.string (bs L3), .int .i64 P3, .bool neg, .bool tr3])).setIfInBounds 14 (.pointer (some ⟨h1, 0, none⟩))).setIfInBounds 15 (.pointer (some ⟨h2, 0, none⟩))), defers := [] } wx) := by
      intro L1 P1 q1 L2 P2 tr2 q2 L3 P3 tr3 q3 wx hb h1 g1 k1 h2 g2 k2 hne
      as_aux_lemma =>
        subst hops
        exact wpAnyH_done (by kernel_rfl) (HEND.out L1 P1 q1 L2 P2 tr2 q2 L3 P3 tr3 q3 wx hb h1 g1 k1 h2 g2 k2 hne) _
    have T3111 : Hid (∀ (L1 : List Nat) (P1 : Int) (q1 : Hid (ShK l p false a L1 P1 false)) (L2 : List Nat) (P2 : Int) (tr2 : Bool) (q2 : Hid (ShK L1 P1 false b L2 P2 tr2)) (L3 : List Nat) (P3 : Int) (tr3 : Bool) (q3 : Hid (ShK l p false (a + b) L3 P3 tr3)) (wx : World) (hb : Hid (Below W2.heap.size W2 wx)) (h1 : Nat) (g1 : W2.heap.size ≤ h1) (k1 : Hid (Box wx 25 h1 #[.string (bs L2), .int .i64 P2, .bool neg, .bool tr2])) (h2 : Nat) (g2 : W2.heap.size ≤ h2) (k2 : Hid (Box wx 25 h2 #[.string ⟨#[]⟩, .int .i64 0, .bool false, .bool false])) (hne : h1 ≠ h2), wpAnyH Tryd.prog .any ops Q SX 1 #[true, true, true, true, true, true, true, true, true, true, true, true, true, false] { tmps := (((((tm.setIfInBounds 31 (.agg #[.string (bs L1), .int .i64 P1, .bool neg, .bool false])).setIfInBounds 33 (.agg #[.string (bs L2), .int .i64 P2, .bool neg, .bool tr2])).setIfInBounds 38 (.agg #[.string (bs L3), .int .i64 P3, .bool neg, .bool tr3])).setIfInBounds 14 (.pointer (some ⟨h1, 0, none⟩))).setIfInBounds 15 (.pointer (some ⟨h2, 0, none⟩))), defers := [] } wx) := by
      intro L1 P1 q1 L2 P2 tr2 q2 L3 P3 tr3 q3 wx hb h1 g1 k1 h2 g2 k2 hne
      as_aux_lemma =>
        subst hops htm
        simp only [List.setIfInBounds_toArray, List.set_cons_zero, List.set_cons_succ]
        refine wpAnyH_ready (rs := [13]) (by kernel_rfl) (by simp) ?_
        refine AllReadyH.cons rfl (fun K hK => ?_) ?_
        · (try simp only [List.getElem_toArray, List.getElem_cons_zero, List.getElem_cons_succ])
          obtain ⟨⟨_, _, _, _⟩, ⟨_, _, _, _⟩, _, _, _⟩ := k2.out.facts4
          have hbN : Hid (Below W2.heap.size W2 ((((wx.setCell ⟨h2, 0, none⟩ (.string (bs L3))).setCell ⟨h2, 1, none⟩ (.int .i64 P3)).setCell ⟨h2, 2, none⟩ (.bool neg)).setCell ⟨h2, 3, none⟩ (.bool tr3))) := (((hb.out.setCell (p := ⟨h2, 0, none⟩) g2 _).setCell (p := ⟨h2, 1, none⟩) g2 _).setCell (p := ⟨h2, 2, none⟩) g2 _).setCell (p := ⟨h2, 3, none⟩) g2 _
          have kN : Hid (Box ((((wx.setCell ⟨h2, 0, none⟩ (.string (bs L3))).setCell ⟨h2, 1, none⟩ (.int .i64 P3)).setCell ⟨h2, 2, none⟩ (.bool neg)).setCell ⟨h2, 3, none⟩ (.bool tr3)) 25 h2 #[.string (bs L3), .int .i64 P3, .bool neg, .bool tr3]) := (((k2.out.set 0 (.string (bs L3))).set 1 (.int .i64 P3)).set 2 (.bool neg)).set 3 (.bool tr3)
          have kO : Hid (Box ((((wx.setCell ⟨h2, 0, none⟩ (.string (bs L3))).setCell ⟨h2, 1, none⟩ (.int .i64 P3)).setCell ⟨h2, 2, none⟩ (.bool neg)).setCell ⟨h2, 3, none⟩ (.bool tr3)) 25 h1 #[.string (bs L2), .int .i64 P2, .bool neg, .bool tr2]) := (((k1.out.far (p := ⟨h2, 0, none⟩) hne _).far (p := ⟨h2, 1, none⟩) hne _).far (p := ⟨h2, 2, none⟩) hne _).far (p := ⟨h2, 3, none⟩) hne _
          go_simp
          refine hK.out _ _ ?_ (fun _ => ?_)
          · exact HSX _ hbN
          exact T3112.out L1 P1 q1 L2 P2 tr2 q2 L3 P3 tr3 q3 _ hbN h1 g1 kO h2 g2 kN hne
        exact AllReadyH.nil
    have T3110 : Hid (∀ (L1 : List Nat) (P1 : Int) (q1 : Hid (ShK l p false a L1 P1 false)) (L2 : List Nat) (P2 : Int) (tr2 : Bool) (q2 : Hid (ShK L1 P1 false b L2 P2 tr2)) (L3 : List Nat) (P3 : Int) (tr3 : Bool) (q3 : Hid (ShK l p false (a + b) L3 P3 tr3)) (wx : World) (hb : Hid (Below W2.heap.size W2 wx)) (h1 : Nat) (g1 : W2.heap.size ≤ h1) (k1 : Hid (Box wx 25 h1 #[.string ⟨#[]⟩, .int .i64 0, .bool false, .bool false])) (h2 : Nat) (g2 : W2.heap.size ≤ h2) (k2 : Hid (Box wx 25 h2 #[.string ⟨#[]⟩, .int .i64 0, .bool false, .bool false])) (hne : h1 ≠ h2), wpAnyH Tryd.prog .any ops Q SX 2 #[true, true, true, true, true, true, true, true, true, true, true, true, false, false] { tmps := (((((tm.setIfInBounds 31 (.agg #[.string (bs L1), .int .i64 P1, .bool neg, .bool false])).setIfInBounds 33 (.agg #[.string (bs L2), .int .i64 P2, .bool neg, .bool tr2])).setIfInBounds 38 (.agg #[.string (bs L3), .int .i64 P3, .bool neg, .bool tr3])).setIfInBounds 14 (.pointer (some ⟨h1, 0, none⟩))).setIfInBounds 15 (.pointer (some ⟨h2, 0, none⟩))), defers := [] } wx) := by
      intro L1 P1 q1 L2 P2 tr2 q2 L3 P3 tr3 q3 wx hb h1 g1 k1 h2 g2 k2 hne
      as_aux_lemma =>
        subst hops htm
        simp only [List.setIfInBounds_toArray, List.set_cons_zero, List.set_cons_succ]
        refine wpAnyH_ready (rs := [12]) (by kernel_rfl) (by simp) ?_
        refine AllReadyH.cons rfl (fun K hK => ?_) ?_
        · (try simp only [List.getElem_toArray, List.getElem_cons_zero, List.getElem_cons_succ])
          obtain ⟨⟨_, _, _, _⟩, ⟨_, _, _, _⟩, _, _, _⟩ := k1.out.facts4
          have hbN : Hid (Below W2.heap.size W2 ((((wx.setCell ⟨h1, 0, none⟩ (.string (bs L2))).setCell ⟨h1, 1, none⟩ (.int .i64 P2)).setCell ⟨h1, 2, none⟩ (.bool neg)).setCell ⟨h1, 3, none⟩ (.bool tr2))) := (((hb.out.setCell (p := ⟨h1, 0, none⟩) g1 _).setCell (p := ⟨h1, 1, none⟩) g1 _).setCell (p := ⟨h1, 2, none⟩) g1 _).setCell (p := ⟨h1, 3, none⟩) g1 _
          have kN : Hid (Box ((((wx.setCell ⟨h1, 0, none⟩ (.string (bs L2))).setCell ⟨h1, 1, none⟩ (.int .i64 P2)).setCell ⟨h1, 2, none⟩ (.bool neg)).setCell ⟨h1, 3, none⟩ (.bool tr2)) 25 h1 #[.string (bs L2), .int .i64 P2, .bool neg, .bool tr2]) := (((k1.out.set 0 (.string (bs L2))).set 1 (.int .i64 P2)).set 2 (.bool neg)).set 3 (.bool tr2)
          have kO : Hid (Box ((((wx.setCell ⟨h1, 0, none⟩ (.string (bs L2))).setCell ⟨h1, 1, none⟩ (.int .i64 P2)).setCell ⟨h1, 2, none⟩ (.bool neg)).setCell ⟨h1, 3, none⟩ (.bool tr2)) 25 h2 #[.string ⟨#[]⟩, .int .i64 0, .bool false, .bool false]) := (((k2.out.far (p := ⟨h1, 0, none⟩) (Ne.symm hne) _).far (p := ⟨h1, 1, none⟩) (Ne.symm hne) _).far (p := ⟨h1, 2, none⟩) (Ne.symm hne) _).far (p := ⟨h1, 3, none⟩) (Ne.symm hne) _
          go_simp
          refine hK.out _ _ ?_ (fun _ => ?_)
          · exact HSX _ hbN
          exact T3111.out L1 P1 q1 L2 P2 tr2 q2 L3 P3 tr3 q3 _ hbN h1 g1 kN h2 g2 kO hne
        exact AllReadyH.nil
    have T3100 : Hid (∀ (L1 : List Nat) (P1 : Int) (q1 : Hid (ShK l p false a L1 P1 false)) (L2 : List Nat) (P2 : Int) (tr2 : Bool) (q2 : Hid (ShK L1 P1 false b L2 P2 tr2)) (L3 : List Nat) (P3 : Int) (tr3 : Bool) (q3 : Hid (ShK l p false (a + b) L3 P3 tr3)) (wx : World) (hb : Hid (Below W2.heap.size W2 wx)) (h1 : Nat) (g1 : W2.heap.size ≤ h1) (k1 : Hid (Box wx 25 h1 #[.string ⟨#[]⟩, .int .i64 0, .bool false, .bool false])), wpAnyH Tryd.prog .any ops Q SX 3 #[true, true, true, true, true, true, true, true, true, true, true, false, false, false] { tmps := ((((tm.setIfInBounds 31 (.agg #[.string (bs L1), .int .i64 P1, .bool neg, .bool false])).setIfInBounds 33 (.agg #[.string (bs L2), .int .i64 P2, .bool neg, .bool tr2])).setIfInBounds 38 (.agg #[.string (bs L3), .int .i64 P3, .bool neg, .bool tr3])).setIfInBounds 14 (.pointer (some ⟨h1, 0, none⟩))), defers := [] } wx) := by
      intro L1 P1 q1 L2 P2 tr2 q2 L3 P3 tr3 q3 wx hb h1 g1 k1
      as_aux_lemma =>
        subst hops htm
        simp only [List.setIfInBounds_toArray, List.set_cons_zero, List.set_cons_succ]
        refine wpAnyH_ready (rs := [11]) (by kernel_rfl) (by simp) ?_
        refine AllReadyH.cons rfl (fun K hK => ?_) ?_
        · (try simp only [List.getElem_toArray, List.getElem_cons_zero, List.getElem_cons_succ])
          have hbN : Hid (Below W2.heap.size W2 (wx.alloc (.cells #[.string ⟨#[]⟩, .int .i64 0, .bool false, .bool false] 25))) := hb.out.alloc hb.out.size _
          have kN : Hid (Box (wx.alloc (.cells #[.string ⟨#[]⟩, .int .i64 0, .bool false, .bool false] 25)) 25 wx.heap.size #[.string ⟨#[]⟩, .int .i64 0, .bool false, .bool false]) := Box.new wx 25 #[.string ⟨#[]⟩, .int .i64 0, .bool false, .bool false]
          have k1' : Hid (Box (wx.alloc (.cells #[.string ⟨#[]⟩, .int .i64 0, .bool false, .bool false] 25)) 25 h1 #[.string ⟨#[]⟩, .int .i64 0, .bool false, .bool false]) := k1.out.alloc _
          have hneN : h1 ≠ wx.heap.size := Nat.ne_of_lt k1.out.lt
          go_simp
          refine hK.out _ _ ?_ (fun _ => ?_)
          · exact HSX _ hbN
          exact T3110.out L1 P1 q1 L2 P2 tr2 q2 L3 P3 tr3 q3 _ hbN h1 g1 k1' wx.heap.size hb.out.size kN hneN
        exact AllReadyH.nil
    have T3010 : Hid (∀ (L1 : List Nat) (P1 : Int) (q1 : Hid (ShK l p false a L1 P1 false)) (L2 : List Nat) (P2 : Int) (tr2 : Bool) (q2 : Hid (ShK L1 P1 false b L2 P2 tr2)) (L3 : List Nat) (P3 : Int) (tr3 : Bool) (q3 : Hid (ShK l p false (a + b) L3 P3 tr3)) (wx : World) (hb : Hid (Below W2.heap.size W2 wx)) (h2 : Nat) (g2 : W2.heap.size ≤ h2) (k2 : Hid (Box wx 25 h2 #[.string ⟨#[]⟩, .int .i64 0, .bool false, .bool false])), wpAnyH Tryd.prog .any ops Q SX 3 #[true, true, true, true, true, true, true, true, true, true, false, true, false, false] { tmps := ((((tm.setIfInBounds 31 (.agg #[.string (bs L1), .int .i64 P1, .bool neg, .bool false])).setIfInBounds 33 (.agg #[.string (bs L2), .int .i64 P2, .bool neg, .bool tr2])).setIfInBounds 38 (.agg #[.string (bs L3), .int .i64 P3, .bool neg, .bool tr3])).setIfInBounds 15 (.pointer (some ⟨h2, 0, none⟩))), defers := [] } wx) := by
      intro L1 P1 q1 L2 P2 tr2 q2 L3 P3 tr3 q3 wx hb h2 g2 k2
      as_aux_lemma =>
        subst hops htm
        simp only [List.setIfInBounds_toArray, List.set_cons_zero, List.set_cons_succ]
        refine wpAnyH_ready (rs := [10]) (by kernel_rfl) (by simp) ?_
        refine AllReadyH.cons rfl (fun K hK => ?_) ?_
        · (try simp only [List.getElem_toArray, List.getElem_cons_zero, List.getElem_cons_succ])
          have hbN : Hid (Below W2.heap.size W2 (wx.alloc (.cells #[.string ⟨#[]⟩, .int .i64 0, .bool false, .bool false] 25))) := hb.out.alloc hb.out.size _
          have kN : Hid (Box (wx.alloc (.cells #[.string ⟨#[]⟩, .int .i64 0, .bool false, .bool false] 25)) 25 wx.heap.size #[.string ⟨#[]⟩, .int .i64 0, .bool false, .bool false]) := Box.new wx 25 #[.string ⟨#[]⟩, .int .i64 0, .bool false, .bool false]
          have k2' : Hid (Box (wx.alloc (.cells #[.string ⟨#[]⟩, .int .i64 0, .bool false, .bool false] 25)) 25 h2 #[.string ⟨#[]⟩, .int .i64 0, .bool false, .bool false]) := k2.out.alloc _
          have hneN : wx.heap.size ≠ h2 := Nat.ne_of_gt k2.out.lt
          go_simp
          refine hK.out _ _ ?_ (fun _ => ?_)
          · exact HSX _ hbN
          exact T3110.out L1 P1 q1 L2 P2 tr2 q2 L3 P3 tr3 q3 _ hbN wx.heap.size hb.out.size kN h2 g2 k2' hneN
        exact AllReadyH.nil
    have T3000 : Hid (∀ (L1 : List Nat) (P1 : Int) (q1 : Hid (ShK l p false a L1 P1 false)) (L2 : List Nat) (P2 : Int) (tr2 : Bool) (q2 : Hid (ShK L1 P1 false b L2 P2 tr2)) (L3 : List Nat) (P3 : Int) (tr3 : Bool) (q3 : Hid (ShK l p false (a + b) L3 P3 tr3)) (wx : World) (hb : Hid (Below W2.heap.size W2 wx)), wpAnyH Tryd.prog .any ops Q SX 4 #[true, true, true, true, true, true, true, true, true, true, false, false, false, false] { tmps := (((tm.setIfInBounds 31 (.agg #[.string (bs L1), .int .i64 P1, .bool neg, .bool false])).setIfInBounds 33 (.agg #[.string (bs L2), .int .i64 P2, .bool neg, .bool tr2])).setIfInBounds 38 (.agg #[.string (bs L3), .int .i64 P3, .bool neg, .bool tr3])), defers := [] } wx) := by
      intro L1 P1 q1 L2 P2 tr2 q2 L3 P3 tr3 q3 wx hb
      as_aux_lemma =>
        subst hops htm
        simp only [List.setIfInBounds_toArray, List.set_cons_zero, List.set_cons_succ]
        refine wpAnyH_ready (rs := [10, 11]) (by kernel_rfl) (by simp) ?_
        refine AllReadyH.cons rfl (fun K hK => ?_) ?_
        · (try simp only [List.getElem_toArray, List.getElem_cons_zero, List.getElem_cons_succ])
          have hbN : Hid (Below W2.heap.size W2 (wx.alloc (.cells #[.string ⟨#[]⟩, .int .i64 0, .bool false, .bool false] 25))) := hb.out.alloc hb.out.size _
          have kN : Hid (Box (wx.alloc (.cells #[.string ⟨#[]⟩, .int .i64 0, .bool false, .bool false] 25)) 25 wx.heap.size #[.string ⟨#[]⟩, .int .i64 0, .bool false, .bool false]) := Box.new wx 25 #[.string ⟨#[]⟩, .int .i64 0, .bool false, .bool false]
          go_simp
          refine hK.out _ _ ?_ (fun _ => ?_)
          · exact HSX _ hbN
          exact T3100.out L1 P1 q1 L2 P2 tr2 q2 L3 P3 tr3 q3 _ hbN wx.heap.size hb.out.size kN
        refine AllReadyH.cons rfl (fun K hK => ?_) ?_
        · (try simp only [List.getElem_toArray, List.getElem_cons_zero, List.getElem_cons_succ])
          have hbN : Hid (Below W2.heap.size W2 (wx.alloc (.cells #[.string ⟨#[]⟩, .int .i64 0, .bool false, .bool false] 25))) := hb.out.alloc hb.out.size _
          have kN : Hid (Box (wx.alloc (.cells #[.string ⟨#[]⟩, .int .i64 0, .bool false, .bool false] 25)) 25 wx.heap.size #[.string ⟨#[]⟩, .int .i64 0, .bool false, .bool false]) := Box.new wx 25 #[.string ⟨#[]⟩, .int .i64 0, .bool false, .bool false]
          go_simp
          refine hK.out _ _ ?_ (fun _ => ?_)
          · exact HSX _ hbN
          exact T3010.out L1 P1 q1 L2 P2 tr2 q2 L3 P3 tr3 q3 _ hbN wx.heap.size hb.out.size kN
        exact AllReadyH.nil
    have T2110 : Hid (∀ (L1 : List Nat) (P1 : Int) (q1 : Hid (ShK l p false a L1 P1 false)) (L2 : List Nat) (P2 : Int) (tr2 : Bool) (q2 : Hid (ShK L1 P1 false b L2 P2 tr2)) (wx : World) (hb : Hid (Below W2.heap.size W2 wx)) (h1 : Nat) (g1 : W2.heap.size ≤ h1) (k1 : Hid (Box wx 25 h1 #[.string ⟨#[]⟩, .int .i64 0, .bool false, .bool false])) (h2 : Nat) (g2 : W2.heap.size ≤ h2) (k2 : Hid (Box wx 25 h2 #[.string ⟨#[]⟩, .int .i64 0, .bool false, .bool false])) (hne : h1 ≠ h2), wpAnyH Tryd.prog .any ops Q SX 3 #[true, true, true, true, true, true, true, true, true, false, true, true, false, false] { tmps := ((((tm.setIfInBounds 31 (.agg #[.string (bs L1), .int .i64 P1, .bool neg, .bool false])).setIfInBounds 33 (.agg #[.string (bs L2), .int .i64 P2, .bool neg, .bool tr2])).setIfInBounds 14 (.pointer (some ⟨h1, 0, none⟩))).setIfInBounds 15 (.pointer (some ⟨h2, 0, none⟩))), defers := [] } wx) := by
      intro L1 P1 q1 L2 P2 tr2 q2 wx hb h1 g1 k1 h2 g2 k2 hne
      as_aux_lemma =>
        subst hops htm
        simp only [List.setIfInBounds_toArray, List.set_cons_zero, List.set_cons_succ]
        refine wpAnyH_ready (rs := [9]) (by kernel_rfl) (by simp) ?_
        refine AllReadyH.cons rfl (fun K hK => ?_) ?_
        · (try simp only [List.getElem_toArray, List.getElem_cons_zero, List.getElem_cons_succ])
          go_simp
          refine (shift_out l (a + b) p neg false _ w.heap.size HTd.out.lead (digs_bytes HDg.out) hl8 ((HC.out.later HB2.out (Nat.le_refl _)).later hb.out HB2.out.size) pp0 pp1 cc0 cc1).mono ?_
          rintro e' w4 ⟨LL, PP, tt, hq, rfl, hb4⟩
          have hbN : Hid (Below W2.heap.size W2 w4) := hb.out.trans (hb4.mono hb.out.size)
          have k1' : Hid (Box w4 25 h1 #[.string ⟨#[]⟩, .int .i64 0, .bool false, .bool false]) := k1.out.later hb4 k1.out.lt
          have k2' : Hid (Box w4 25 h2 #[.string ⟨#[]⟩, .int .i64 0, .bool false, .bool false]) := k2.out.later hb4 k2.out.lt
          have HQQ := Lib.hid hq
          clear hq hb4
          go_wp2_with fail
          refine hK.out _ _ ?_ (fun _ => ?_)
          · exact HSX _ hbN
          exact T3110.out L1 P1 q1 L2 P2 tr2 q2 LL PP tt HQQ w4 hbN h1 g1 k1' h2 g2 k2' hne
        exact AllReadyH.nil
    have T2100 : Hid (∀ (L1 : List Nat) (P1 : Int) (q1 : Hid (ShK l p false a L1 P1 false)) (L2 : List Nat) (P2 : Int) (tr2 : Bool) (q2 : Hid (ShK L1 P1 false b L2 P2 tr2)) (wx : World) (hb : Hid (Below W2.heap.size W2 wx)) (h1 : Nat) (g1 : W2.heap.size ≤ h1) (k1 : Hid (Box wx 25 h1 #[.string ⟨#[]⟩, .int .i64 0, .bool false, .bool false])), wpAnyH Tryd.prog .any ops Q SX 4 #[true, true, true, true, true, true, true, true, true, false, true, false, false, false] { tmps := (((tm.setIfInBounds 31 (.agg #[.string (bs L1), .int .i64 P1, .bool neg, .bool false])).setIfInBounds 33 (.agg #[.string (bs L2), .int .i64 P2, .bool neg, .bool tr2])).setIfInBounds 14 (.pointer (some ⟨h1, 0, none⟩))), defers := [] } wx) := by
      intro L1 P1 q1 L2 P2 tr2 q2 wx hb h1 g1 k1
      as_aux_lemma =>
        subst hops htm
        simp only [List.setIfInBounds_toArray, List.set_cons_zero, List.set_cons_succ]
        refine wpAnyH_ready (rs := [9, 11]) (by kernel_rfl) (by simp) ?_
        refine AllReadyH.cons rfl (fun K hK => ?_) ?_
        · (try simp only [List.getElem_toArray, List.getElem_cons_zero, List.getElem_cons_succ])
          go_simp
          refine (shift_out l (a + b) p neg false _ w.heap.size HTd.out.lead (digs_bytes HDg.out) hl8 ((HC.out.later HB2.out (Nat.le_refl _)).later hb.out HB2.out.size) pp0 pp1 cc0 cc1).mono ?_
          rintro e' w4 ⟨LL, PP, tt, hq, rfl, hb4⟩
          have hbN : Hid (Below W2.heap.size W2 w4) := hb.out.trans (hb4.mono hb.out.size)
          have k1' : Hid (Box w4 25 h1 #[.string ⟨#[]⟩, .int .i64 0, .bool false, .bool false]) := k1.out.later hb4 k1.out.lt
          have HQQ := Lib.hid hq
          clear hq hb4
          go_wp2_with fail
          refine hK.out _ _ ?_ (fun _ => ?_)
          · exact HSX _ hbN
          exact T3100.out L1 P1 q1 L2 P2 tr2 q2 LL PP tt HQQ w4 hbN h1 g1 k1'
        refine AllReadyH.cons rfl (fun K hK => ?_) ?_
        · (try simp only [List.getElem_toArray, List.getElem_cons_zero, List.getElem_cons_succ])
          have hbN : Hid (Below W2.heap.size W2 (wx.alloc (.cells #[.string ⟨#[]⟩, .int .i64 0, .bool false, .bool false] 25))) := hb.out.alloc hb.out.size _
          have kN : Hid (Box (wx.alloc (.cells #[.string ⟨#[]⟩, .int .i64 0, .bool false, .bool false] 25)) 25 wx.heap.size #[.string ⟨#[]⟩, .int .i64 0, .bool false, .bool false]) := Box.new wx 25 #[.string ⟨#[]⟩, .int .i64 0, .bool false, .bool false]
          have k1' : Hid (Box (wx.alloc (.cells #[.string ⟨#[]⟩, .int .i64 0, .bool false, .bool false] 25)) 25 h1 #[.string ⟨#[]⟩, .int .i64 0, .bool false, .bool false]) := k1.out.alloc _
          have hneN : h1 ≠ wx.heap.size := Nat.ne_of_lt k1.out.lt
          go_simp
          refine hK.out _ _ ?_ (fun _ => ?_)
          · exact HSX _ hbN
          exact T2110.out L1 P1 q1 L2 P2 tr2 q2 _ hbN h1 g1 k1' wx.heap.size hb.out.size kN hneN
        exact AllReadyH.nil
    have T2010 : Hid (∀ (L1 : List Nat) (P1 : Int) (q1 : Hid (ShK l p false a L1 P1 false)) (L2 : List Nat) (P2 : Int) (tr2 : Bool) (q2 : Hid (ShK L1 P1 false b L2 P2 tr2)) (wx : World) (hb : Hid (Below W2.heap.size W2 wx)) (h2 : Nat) (g2 : W2.heap.size ≤ h2) (k2 : Hid (Box wx 25 h2 #[.string ⟨#[]⟩, .int .i64 0, .bool false, .bool false])), wpAnyH Tryd.prog .any ops Q SX 4 #[true, true, true, true, true, true, true, true, true, false, false, true, false, false] { tmps := (((tm.setIfInBounds 31 (.agg #[.string (bs L1), .int .i64 P1, .bool neg, .bool false])).setIfInBounds 33 (.agg #[.string (bs L2), .int .i64 P2, .bool neg, .bool tr2])).setIfInBounds 15 (.pointer (some ⟨h2, 0, none⟩))), defers := [] } wx) := by
      intro L1 P1 q1 L2 P2 tr2 q2 wx hb h2 g2 k2
      as_aux_lemma =>
        subst hops htm
        simp only [List.setIfInBounds_toArray, List.set_cons_zero, List.set_cons_succ]
        refine wpAnyH_ready (rs := [9, 10]) (by kernel_rfl) (by simp) ?_
        refine AllReadyH.cons rfl (fun K hK => ?_) ?_
        · (try simp only [List.getElem_toArray, List.getElem_cons_zero, List.getElem_cons_succ])
          go_simp
          refine (shift_out l (a + b) p neg false _ w.heap.size HTd.out.lead (digs_bytes HDg.out) hl8 ((HC.out.later HB2.out (Nat.le_refl _)).later hb.out HB2.out.size) pp0 pp1 cc0 cc1).mono ?_
          rintro e' w4 ⟨LL, PP, tt, hq, rfl, hb4⟩
          have hbN : Hid (Below W2.heap.size W2 w4) := hb.out.trans (hb4.mono hb.out.size)
          have k2' : Hid (Box w4 25 h2 #[.string ⟨#[]⟩, .int .i64 0, .bool false, .bool false]) := k2.out.later hb4 k2.out.lt
          have HQQ := Lib.hid hq
          clear hq hb4
          go_wp2_with fail
          refine hK.out _ _ ?_ (fun _ => ?_)
          · exact HSX _ hbN
          exact T3010.out L1 P1 q1 L2 P2 tr2 q2 LL PP tt HQQ w4 hbN h2 g2 k2'
        refine AllReadyH.cons rfl (fun K hK => ?_) ?_
        · (try simp only [List.getElem_toArray, List.getElem_cons_zero, List.getElem_cons_succ])
          have hbN : Hid (Below W2.heap.size W2 (wx.alloc (.cells #[.string ⟨#[]⟩, .int .i64 0, .bool false, .bool false] 25))) := hb.out.alloc hb.out.size _
          have kN : Hid (Box (wx.alloc (.cells #[.string ⟨#[]⟩, .int .i64 0, .bool false, .bool false] 25)) 25 wx.heap.size #[.string ⟨#[]⟩, .int .i64 0, .bool false, .bool false]) := Box.new wx 25 #[.string ⟨#[]⟩, .int .i64 0, .bool false, .bool false]
          have k2' : Hid (Box (wx.alloc (.cells #[.string ⟨#[]⟩, .int .i64 0, .bool false, .bool false] 25)) 25 h2 #[.string ⟨#[]⟩, .int .i64 0, .bool false, .bool false]) := k2.out.alloc _
          have hneN : wx.heap.size ≠ h2 := Nat.ne_of_gt k2.out.lt
          go_simp
          refine hK.out _ _ ?_ (fun _ => ?_)
          · exact HSX _ hbN
          exact T2110.out L1 P1 q1 L2 P2 tr2 q2 _ hbN wx.heap.size hb.out.size kN h2 g2 k2' hneN
        exact AllReadyH.nil
    have T2000 : Hid (∀ (L1 : List Nat) (P1 : Int) (q1 : Hid (ShK l p false a L1 P1 false)) (L2 : List Nat) (P2 : Int) (tr2 : Bool) (q2 : Hid (ShK L1 P1 false b L2 P2 tr2)) (wx : World) (hb : Hid (Below W2.heap.size W2 wx)), wpAnyH Tryd.prog .any ops Q SX 5 #[true, true, true, true, true, true, true, true, true, false, false, false, false, false] { tmps := ((tm.setIfInBounds 31 (.agg #[.string (bs L1), .int .i64 P1, .bool neg, .bool false])).setIfInBounds 33 (.agg #[.string (bs L2), .int .i64 P2, .bool neg, .bool tr2])), defers := [] } wx) := by
      intro L1 P1 q1 L2 P2 tr2 q2 wx hb
      as_aux_lemma =>
        subst hops htm
        simp only [List.setIfInBounds_toArray, List.set_cons_zero, List.set_cons_succ]
        refine wpAnyH_ready (rs := [9, 10, 11]) (by kernel_rfl) (by simp) ?_
        refine AllReadyH.cons rfl (fun K hK => ?_) ?_
        · (try simp only [List.getElem_toArray, List.getElem_cons_zero, List.getElem_cons_succ])
          go_simp
          refine (shift_out l (a + b) p neg false _ w.heap.size HTd.out.lead (digs_bytes HDg.out) hl8 ((HC.out.later HB2.out (Nat.le_refl _)).later hb.out HB2.out.size) pp0 pp1 cc0 cc1).mono ?_
          rintro e' w4 ⟨LL, PP, tt, hq, rfl, hb4⟩
          have hbN : Hid (Below W2.heap.size W2 w4) := hb.out.trans (hb4.mono hb.out.size)
          have HQQ := Lib.hid hq
          clear hq hb4
          go_wp2_with fail
          refine hK.out _ _ ?_ (fun _ => ?_)
          · exact HSX _ hbN
          exact T3000.out L1 P1 q1 L2 P2 tr2 q2 LL PP tt HQQ w4 hbN
        refine AllReadyH.cons rfl (fun K hK => ?_) ?_
        · (try simp only [List.getElem_toArray, List.getElem_cons_zero, List.getElem_cons_succ])
          have hbN : Hid (Below W2.heap.size W2 (wx.alloc (.cells #[.string ⟨#[]⟩, .int .i64 0, .bool false, .bool false] 25))) := hb.out.alloc hb.out.size _
          have kN : Hid (Box (wx.alloc (.cells #[.string ⟨#[]⟩, .int .i64 0, .bool false, .bool false] 25)) 25 wx.heap.size #[.string ⟨#[]⟩, .int .i64 0, .bool false, .bool false]) := Box.new wx 25 #[.string ⟨#[]⟩, .int .i64 0, .bool false, .bool false]
          go_simp
          refine hK.out _ _ ?_ (fun _ => ?_)
          · exact HSX _ hbN
          exact T2100.out L1 P1 q1 L2 P2 tr2 q2 _ hbN wx.heap.size hb.out.size kN
        refine AllReadyH.cons rfl (fun K hK => ?_) ?_
        · (try simp only [List.getElem_toArray, List.getElem_cons_zero, List.getElem_cons_succ])
          have hbN : Hid (Below W2.heap.size W2 (wx.alloc (.cells #[.string ⟨#[]⟩, .int .i64 0, .bool false, .bool false] 25))) := hb.out.alloc hb.out.size _
          have kN : Hid (Box (wx.alloc (.cells #[.string ⟨#[]⟩, .int .i64 0, .bool false, .bool false] 25)) 25 wx.heap.size #[.string ⟨#[]⟩, .int .i64 0, .bool false, .bool false]) := Box.new wx 25 #[.string ⟨#[]⟩, .int .i64 0, .bool false, .bool false]
          go_simp
          refine hK.out _ _ ?_ (fun _ => ?_)
          · exact HSX _ hbN
          exact T2010.out L1 P1 q1 L2 P2 tr2 q2 _ hbN wx.heap.size hb.out.size kN
        exact AllReadyH.nil
    have T1110 : Hid (∀ (L1 : List Nat) (P1 : Int) (q1 : Hid (ShK l p false a L1 P1 false)) (wx : World) (hb : Hid (Below W2.heap.size W2 wx)) (h1 : Nat) (g1 : W2.heap.size ≤ h1) (k1 : Hid (Box wx 25 h1 #[.string ⟨#[]⟩, .int .i64 0, .bool false, .bool false])) (h2 : Nat) (g2 : W2.heap.size ≤ h2) (k2 : Hid (Box wx 25 h2 #[.string ⟨#[]⟩, .int .i64 0, .bool false, .bool false])) (hne : h1 ≠ h2), wpAnyH Tryd.prog .any ops Q SX 4 #[true, true, true, true, false, true, true, true, true, false, true, true, false, false] { tmps := (((tm.setIfInBounds 31 (.agg #[.string (bs L1), .int .i64 P1, .bool neg, .bool false])).setIfInBounds 14 (.pointer (some ⟨h1, 0, none⟩))).setIfInBounds 15 (.pointer (some ⟨h2, 0, none⟩))), defers := [] } wx) := by
      intro L1 P1 q1 wx hb h1 g1 k1 h2 g2 k2 hne
      as_aux_lemma =>
        subst hops htm
        simp only [List.setIfInBounds_toArray, List.set_cons_zero, List.set_cons_succ]
        refine wpAnyH_ready (rs := [4]) (by kernel_rfl) (by simp) ?_
        refine AllReadyH.cons rfl (fun K hK => ?_) ?_
        · (try simp only [List.getElem_toArray, List.getElem_cons_zero, List.getElem_cons_succ])
          go_simp
          obtain ⟨_, hT1, hL1, hPa, hPb⟩ := X1.out _ _ _ q1.out
          refine (shift_out L1 b P1 neg false _ w.heap.size hT1.lead (digs_bytes hT1.digs) hL1 ((HC.out.later HB2.out (Nat.le_refl _)).later hb.out HB2.out.size) hPa hPb bb0 bb1).mono ?_
          rintro e' w4 ⟨LL, PP, tt, hq, rfl, hb4⟩
          have hbN : Hid (Below W2.heap.size W2 w4) := hb.out.trans (hb4.mono hb.out.size)
          have k1' : Hid (Box w4 25 h1 #[.string ⟨#[]⟩, .int .i64 0, .bool false, .bool false]) := k1.out.later hb4 k1.out.lt
          have k2' : Hid (Box w4 25 h2 #[.string ⟨#[]⟩, .int .i64 0, .bool false, .bool false]) := k2.out.later hb4 k2.out.lt
          have HQQ := Lib.hid hq
          clear hq hb4
          go_wp2_with fail
          refine hK.out _ _ ?_ (fun _ => ?_)
          · exact HSX _ hbN
          exact T2110.out L1 P1 q1 LL PP tt HQQ w4 hbN h1 g1 k1' h2 g2 k2' hne
        exact AllReadyH.nil
    have T1100 : Hid (∀ (L1 : List Nat) (P1 : Int) (q1 : Hid (ShK l p false a L1 P1 false)) (wx : World) (hb : Hid (Below W2.heap.size W2 wx)) (h1 : Nat) (g1 : W2.heap.size ≤ h1) (k1 : Hid (Box wx 25 h1 #[.string ⟨#[]⟩, .int .i64 0, .bool false, .bool false])), wpAnyH Tryd.prog .any ops Q SX 5 #[true, true, true, true, false, true, true, true, true, false, true, false, false, false] { tmps := ((tm.setIfInBounds 31 (.agg #[.string (bs L1), .int .i64 P1, .bool neg, .bool false])).setIfInBounds 14 (.pointer (some ⟨h1, 0, none⟩))), defers := [] } wx) := by
      intro L1 P1 q1 wx hb h1 g1 k1
      as_aux_lemma =>
        subst hops htm
        simp only [List.setIfInBounds_toArray, List.set_cons_zero, List.set_cons_succ]
        refine wpAnyH_ready (rs := [4, 11]) (by kernel_rfl) (by simp) ?_
        refine AllReadyH.cons rfl (fun K hK => ?_) ?_
        · (try simp only [List.getElem_toArray, List.getElem_cons_zero, List.getElem_cons_succ])
          go_simp
          obtain ⟨_, hT1, hL1, hPa, hPb⟩ := X1.out _ _ _ q1.out
          refine (shift_out L1 b P1 neg false _ w.heap.size hT1.lead (digs_bytes hT1.digs) hL1 ((HC.out.later HB2.out (Nat.le_refl _)).later hb.out HB2.out.size) hPa hPb bb0 bb1).mono ?_
          rintro e' w4 ⟨LL, PP, tt, hq, rfl, hb4⟩
          have hbN : Hid (Below W2.heap.size W2 w4) := hb.out.trans (hb4.mono hb.out.size)
          have k1' : Hid (Box w4 25 h1 #[.string ⟨#[]⟩, .int .i64 0, .bool false, .bool false]) := k1.out.later hb4 k1.out.lt
          have HQQ := Lib.hid hq
          clear hq hb4
          go_wp2_with fail
          refine hK.out _ _ ?_ (fun _ => ?_)
          · exact HSX _ hbN
          exact T2100.out L1 P1 q1 LL PP tt HQQ w4 hbN h1 g1 k1'
        refine AllReadyH.cons rfl (fun K hK => ?_) ?_
        · (try simp only [List.getElem_toArray, List.getElem_cons_zero, List.getElem_cons_succ])
          have hbN : Hid (Below W2.heap.size W2 (wx.alloc (.cells #[.string ⟨#[]⟩, .int .i64 0, .bool false, .bool false] 25))) := hb.out.alloc hb.out.size _
          have kN : Hid (Box (wx.alloc (.cells #[.string ⟨#[]⟩, .int .i64 0, .bool false, .bool false] 25)) 25 wx.heap.size #[.string ⟨#[]⟩, .int .i64 0, .bool false, .bool false]) := Box.new wx 25 #[.string ⟨#[]⟩, .int .i64 0, .bool false, .bool false]
          have k1' : Hid (Box (wx.alloc (.cells #[.string ⟨#[]⟩, .int .i64 0, .bool false, .bool false] 25)) 25 h1 #[.string ⟨#[]⟩, .int .i64 0, .bool false, .bool false]) := k1.out.alloc _
          have hneN : h1 ≠ wx.heap.size := Nat.ne_of_lt k1.out.lt
          go_simp
          refine hK.out _ _ ?_ (fun _ => ?_)
          · exact HSX _ hbN
          exact T1110.out L1 P1 q1 _ hbN h1 g1 k1' wx.heap.size hb.out.size kN hneN
        exact AllReadyH.nil
    have T1010 : Hid (∀ (L1 : List Nat) (P1 : Int) (q1 : Hid (ShK l p false a L1 P1 false)) (wx : World) (hb : Hid (Below W2.heap.size W2 wx)) (h2 : Nat) (g2 : W2.heap.size ≤ h2) (k2 : Hid (Box wx 25 h2 #[.string ⟨#[]⟩, .int .i64 0, .bool false, .bool false])), wpAnyH Tryd.prog .any ops Q SX 5 #[true, true, true, true, false, true, true, true, true, false, false, true, false, false] { tmps := ((tm.setIfInBounds 31 (.agg #[.string (bs L1), .int .i64 P1, .bool neg, .bool false])).setIfInBounds 15 (.pointer (some ⟨h2, 0, none⟩))), defers := [] } wx) := by
      intro L1 P1 q1 wx hb h2 g2 k2
      as_aux_lemma =>
        subst hops htm
        simp only [List.setIfInBounds_toArray, List.set_cons_zero, List.set_cons_succ]
        refine wpAnyH_ready (rs := [4, 10]) (by kernel_rfl) (by simp) ?_
        refine AllReadyH.cons rfl (fun K hK => ?_) ?_
        · (try simp only [List.getElem_toArray, List.getElem_cons_zero, List.getElem_cons_succ])
          go_simp
          obtain ⟨_, hT1, hL1, hPa, hPb⟩ := X1.out _ _ _ q1.out
          refine (shift_out L1 b P1 neg false _ w.heap.size hT1.lead (digs_bytes hT1.digs) hL1 ((HC.out.later HB2.out (Nat.le_refl _)).later hb.out HB2.out.size) hPa hPb bb0 bb1).mono ?_
          rintro e' w4 ⟨LL, PP, tt, hq, rfl, hb4⟩
          have hbN : Hid (Below W2.heap.size W2 w4) := hb.out.trans (hb4.mono hb.out.size)
          have k2' : Hid (Box w4 25 h2 #[.string ⟨#[]⟩, .int .i64 0, .bool false, .bool false]) := k2.out.later hb4 k2.out.lt
          have HQQ := Lib.hid hq
          clear hq hb4
          go_wp2_with fail
          refine hK.out _ _ ?_ (fun _ => ?_)
          · exact HSX _ hbN
          exact T2010.out L1 P1 q1 LL PP tt HQQ w4 hbN h2 g2 k2'
        refine AllReadyH.cons rfl (fun K hK => ?_) ?_
        · (try simp only [List.getElem_toArray, List.getElem_cons_zero, List.getElem_cons_succ])
          have hbN : Hid (Below W2.heap.size W2 (wx.alloc (.cells #[.string ⟨#[]⟩, .int .i64 0, .bool false, .bool false] 25))) := hb.out.alloc hb.out.size _
          have kN : Hid (Box (wx.alloc (.cells #[.string ⟨#[]⟩, .int .i64 0, .bool false, .bool false] 25)) 25 wx.heap.size #[.string ⟨#[]⟩, .int .i64 0, .bool false, .bool false]) := Box.new wx 25 #[.string ⟨#[]⟩, .int .i64 0, .bool false, .bool false]
          have k2' : Hid (Box (wx.alloc (.cells #[.string ⟨#[]⟩, .int .i64 0, .bool false, .bool false] 25)) 25 h2 #[.string ⟨#[]⟩, .int .i64 0, .bool false, .bool false]) := k2.out.alloc _
          have hneN : wx.heap.size ≠ h2 := Nat.ne_of_gt k2.out.lt
          go_simp
          refine hK.out _ _ ?_ (fun _ => ?_)
          · exact HSX _ hbN
          exact T1110.out L1 P1 q1 _ hbN wx.heap.size hb.out.size kN h2 g2 k2' hneN
        exact AllReadyH.nil
    have T1000 : Hid (∀ (L1 : List Nat) (P1 : Int) (q1 : Hid (ShK l p false a L1 P1 false)) (wx : World) (hb : Hid (Below W2.heap.size W2 wx)), wpAnyH Tryd.prog .any ops Q SX 6 #[true, true, true, true, false, true, true, true, true, false, false, false, false, false] { tmps := (tm.setIfInBounds 31 (.agg #[.string (bs L1), .int .i64 P1, .bool neg, .bool false])), defers := [] } wx) := by
      intro L1 P1 q1 wx hb
      as_aux_lemma =>
        subst hops htm
        simp only [List.setIfInBounds_toArray, List.set_cons_zero, List.set_cons_succ]
        refine wpAnyH_ready (rs := [4, 10, 11]) (by kernel_rfl) (by simp) ?_
        refine AllReadyH.cons rfl (fun K hK => ?_) ?_
        · (try simp only [List.getElem_toArray, List.getElem_cons_zero, List.getElem_cons_succ])
          go_simp
          obtain ⟨_, hT1, hL1, hPa, hPb⟩ := X1.out _ _ _ q1.out
          refine (shift_out L1 b P1 neg false _ w.heap.size hT1.lead (digs_bytes hT1.digs) hL1 ((HC.out.later HB2.out (Nat.le_refl _)).later hb.out HB2.out.size) hPa hPb bb0 bb1).mono ?_
          rintro e' w4 ⟨LL, PP, tt, hq, rfl, hb4⟩
          have hbN : Hid (Below W2.heap.size W2 w4) := hb.out.trans (hb4.mono hb.out.size)
          have HQQ := Lib.hid hq
          clear hq hb4
          go_wp2_with fail
          refine hK.out _ _ ?_ (fun _ => ?_)
          · exact HSX _ hbN
          exact T2000.out L1 P1 q1 LL PP tt HQQ w4 hbN
        refine AllReadyH.cons rfl (fun K hK => ?_) ?_
        · (try simp only [List.getElem_toArray, List.getElem_cons_zero, List.getElem_cons_succ])
          have hbN : Hid (Below W2.heap.size W2 (wx.alloc (.cells #[.string ⟨#[]⟩, .int .i64 0, .bool false, .bool false] 25))) := hb.out.alloc hb.out.size _
          have kN : Hid (Box (wx.alloc (.cells #[.string ⟨#[]⟩, .int .i64 0, .bool false, .bool false] 25)) 25 wx.heap.size #[.string ⟨#[]⟩, .int .i64 0, .bool false, .bool false]) := Box.new wx 25 #[.string ⟨#[]⟩, .int .i64 0, .bool false, .bool false]
          go_simp
          refine hK.out _ _ ?_ (fun _ => ?_)
          · exact HSX _ hbN
          exact T1100.out L1 P1 q1 _ hbN wx.heap.size hb.out.size kN
        refine AllReadyH.cons rfl (fun K hK => ?_) ?_
        · (try simp only [List.getElem_toArray, List.getElem_cons_zero, List.getElem_cons_succ])
          have hbN : Hid (Below W2.heap.size W2 (wx.alloc (.cells #[.string ⟨#[]⟩, .int .i64 0, .bool false, .bool false] 25))) := hb.out.alloc hb.out.size _
          have kN : Hid (Box (wx.alloc (.cells #[.string ⟨#[]⟩, .int .i64 0, .bool false, .bool false] 25)) 25 wx.heap.size #[.string ⟨#[]⟩, .int .i64 0, .bool false, .bool false]) := Box.new wx 25 #[.string ⟨#[]⟩, .int .i64 0, .bool false, .bool false]
          go_simp
          refine hK.out _ _ ?_ (fun _ => ?_)
          · exact HSX _ hbN
          exact T1010.out L1 P1 q1 _ hbN wx.heap.size hb.out.size kN
        exact AllReadyH.nil
    have T0110 : Hid (∀ (wx : World) (hb : Hid (Below W2.heap.size W2 wx)) (h1 : Nat) (g1 : W2.heap.size ≤ h1) (k1 : Hid (Box wx 25 h1 #[.string ⟨#[]⟩, .int .i64 0, .bool false, .bool false])) (h2 : Nat) (g2 : W2.heap.size ≤ h2) (k2 : Hid (Box wx 25 h2 #[.string ⟨#[]⟩, .int .i64 0, .bool false, .bool false])) (hne : h1 ≠ h2), wpAnyH Tryd.prog .any ops Q SX 5 #[true, true, false, true, false, true, true, true, true, false, true, true, false, false] { tmps := ((tm.setIfInBounds 14 (.pointer (some ⟨h1, 0, none⟩))).setIfInBounds 15 (.pointer (some ⟨h2, 0, none⟩))), defers := [] } wx) := by
      intro wx hb h1 g1 k1 h2 g2 k2 hne
      as_aux_lemma =>
        subst hops htm
        simp only [List.setIfInBounds_toArray, List.set_cons_zero, List.set_cons_succ]
        refine wpAnyH_ready (rs := [2]) (by kernel_rfl) (by simp) ?_
        refine AllReadyH.cons rfl (fun K hK => ?_) ?_
        · (try simp only [List.getElem_toArray, List.getElem_cons_zero, List.getElem_cons_succ])
          go_simp
          refine (shift_out l a p neg false _ w.heap.size HTd.out.lead (digs_bytes HDg.out) hl8 ((HC.out.later HB2.out (Nat.le_refl _)).later hb.out HB2.out.size) pp0 pp1 aa0 aa1).mono ?_
          rintro e' w4 ⟨LL, PP, tt, hq, rfl, hb4⟩
          obtain ⟨rfl, _, _, _, _⟩ := X1.out _ _ _ hq
          have hbN : Hid (Below W2.heap.size W2 w4) := hb.out.trans (hb4.mono hb.out.size)
          have k1' : Hid (Box w4 25 h1 #[.string ⟨#[]⟩, .int .i64 0, .bool false, .bool false]) := k1.out.later hb4 k1.out.lt
          have k2' : Hid (Box w4 25 h2 #[.string ⟨#[]⟩, .int .i64 0, .bool false, .bool false]) := k2.out.later hb4 k2.out.lt
          have HQQ := Lib.hid hq
          clear hq hb4
          go_wp2_with fail
          refine hK.out _ _ ?_ (fun _ => ?_)
          · exact HSX _ hbN
          exact T1110.out LL PP HQQ w4 hbN h1 g1 k1' h2 g2 k2' hne
        exact AllReadyH.nil
    have T0100 : Hid (∀ (wx : World) (hb : Hid (Below W2.heap.size W2 wx)) (h1 : Nat) (g1 : W2.heap.size ≤ h1) (k1 : Hid (Box wx 25 h1 #[.string ⟨#[]⟩, .int .i64 0, .bool false, .bool false])), wpAnyH Tryd.prog .any ops Q SX 6 #[true, true, false, true, false, true, true, true, true, false, true, false, false, false] { tmps := (tm.setIfInBounds 14 (.pointer (some ⟨h1, 0, none⟩))), defers := [] } wx) := by
      intro wx hb h1 g1 k1
      as_aux_lemma =>
        subst hops htm
        simp only [List.setIfInBounds_toArray, List.set_cons_zero, List.set_cons_succ]
        refine wpAnyH_ready (rs := [2, 11]) (by kernel_rfl) (by simp) ?_
        refine AllReadyH.cons rfl (fun K hK => ?_) ?_
        · (try simp only [List.getElem_toArray, List.getElem_cons_zero, List.getElem_cons_succ])
          go_simp
          refine (shift_out l a p neg false _ w.heap.size HTd.out.lead (digs_bytes HDg.out) hl8 ((HC.out.later HB2.out (Nat.le_refl _)).later hb.out HB2.out.size) pp0 pp1 aa0 aa1).mono ?_
          rintro e' w4 ⟨LL, PP, tt, hq, rfl, hb4⟩
          obtain ⟨rfl, _, _, _, _⟩ := X1.out _ _ _ hq
          have hbN : Hid (Below W2.heap.size W2 w4) := hb.out.trans (hb4.mono hb.out.size)
          have k1' : Hid (Box w4 25 h1 #[.string ⟨#[]⟩, .int .i64 0, .bool false, .bool false]) := k1.out.later hb4 k1.out.lt
          have HQQ := Lib.hid hq
          clear hq hb4
          go_wp2_with fail
          refine hK.out _ _ ?_ (fun _ => ?_)
          · exact HSX _ hbN
          exact T1100.out LL PP HQQ w4 hbN h1 g1 k1'
        refine AllReadyH.cons rfl (fun K hK => ?_) ?_
        · (try simp only [List.getElem_toArray, List.getElem_cons_zero, List.getElem_cons_succ])
          have hbN : Hid (Below W2.heap.size W2 (wx.alloc (.cells #[.string ⟨#[]⟩, .int .i64 0, .bool false, .bool false] 25))) := hb.out.alloc hb.out.size _
          have kN : Hid (Box (wx.alloc (.cells #[.string ⟨#[]⟩, .int .i64 0, .bool false, .bool false] 25)) 25 wx.heap.size #[.string ⟨#[]⟩, .int .i64 0, .bool false, .bool false]) := Box.new wx 25 #[.string ⟨#[]⟩, .int .i64 0, .bool false, .bool false]
          have k1' : Hid (Box (wx.alloc (.cells #[.string ⟨#[]⟩, .int .i64 0, .bool false, .bool false] 25)) 25 h1 #[.string ⟨#[]⟩, .int .i64 0, .bool false, .bool false]) := k1.out.alloc _
          have hneN : h1 ≠ wx.heap.size := Nat.ne_of_lt k1.out.lt
          go_simp
          refine hK.out _ _ ?_ (fun _ => ?_)
          · exact HSX _ hbN
          exact T0110.out _ hbN h1 g1 k1' wx.heap.size hb.out.size kN hneN
        exact AllReadyH.nil
    have T0010 : Hid (∀ (wx : World) (hb : Hid (Below W2.heap.size W2 wx)) (h2 : Nat) (g2 : W2.heap.size ≤ h2) (k2 : Hid (Box wx 25 h2 #[.string ⟨#[]⟩, .int .i64 0, .bool false, .bool false])), wpAnyH Tryd.prog .any ops Q SX 6 #[true, true, false, true, false, true, true, true, true, false, false, true, false, false] { tmps := (tm.setIfInBounds 15 (.pointer (some ⟨h2, 0, none⟩))), defers := [] } wx) := by
      intro wx hb h2 g2 k2
      as_aux_lemma =>
        subst hops htm
        simp only [List.setIfInBounds_toArray, List.set_cons_zero, List.set_cons_succ]
        refine wpAnyH_ready (rs := [2, 10]) (by kernel_rfl) (by simp) ?_
        refine AllReadyH.cons rfl (fun K hK => ?_) ?_
        · (try simp only [List.getElem_toArray, List.getElem_cons_zero, List.getElem_cons_succ])
          go_simp
          refine (shift_out l a p neg false _ w.heap.size HTd.out.lead (digs_bytes HDg.out) hl8 ((HC.out.later HB2.out (Nat.le_refl _)).later hb.out HB2.out.size) pp0 pp1 aa0 aa1).mono ?_
          rintro e' w4 ⟨LL, PP, tt, hq, rfl, hb4⟩
          obtain ⟨rfl, _, _, _, _⟩ := X1.out _ _ _ hq
          have hbN : Hid (Below W2.heap.size W2 w4) := hb.out.trans (hb4.mono hb.out.size)
          have k2' : Hid (Box w4 25 h2 #[.string ⟨#[]⟩, .int .i64 0, .bool false, .bool false]) := k2.out.later hb4 k2.out.lt
          have HQQ := Lib.hid hq
          clear hq hb4
          go_wp2_with fail
          refine hK.out _ _ ?_ (fun _ => ?_)
          · exact HSX _ hbN
          exact T1010.out LL PP HQQ w4 hbN h2 g2 k2'
        refine AllReadyH.cons rfl (fun K hK => ?_) ?_
        · (try simp only [List.getElem_toArray, List.getElem_cons_zero, List.getElem_cons_succ])
          have hbN : Hid (Below W2.heap.size W2 (wx.alloc (.cells #[.string ⟨#[]⟩, .int .i64 0, .bool false, .bool false] 25))) := hb.out.alloc hb.out.size _
          have kN : Hid (Box (wx.alloc (.cells #[.string ⟨#[]⟩, .int .i64 0, .bool false, .bool false] 25)) 25 wx.heap.size #[.string ⟨#[]⟩, .int .i64 0, .bool false, .bool false]) := Box.new wx 25 #[.string ⟨#[]⟩, .int .i64 0, .bool false, .bool false]
          have k2' : Hid (Box (wx.alloc (.cells #[.string ⟨#[]⟩, .int .i64 0, .bool false, .bool false] 25)) 25 h2 #[.string ⟨#[]⟩, .int .i64 0, .bool false, .bool false]) := k2.out.alloc _
          have hneN : wx.heap.size ≠ h2 := Nat.ne_of_gt k2.out.lt
          go_simp
          refine hK.out _ _ ?_ (fun _ => ?_)
          · exact HSX _ hbN
          exact T0110.out _ hbN wx.heap.size hb.out.size kN h2 g2 k2' hneN
        exact AllReadyH.nil
    have T0000 : Hid (∀ (wx : World) (hb : Hid (Below W2.heap.size W2 wx)), wpAnyH Tryd.prog .any ops Q SX 7 #[true, true, false, true, false, true, true, true, true, false, false, false, false, false] { tmps := tm, defers := [] } wx) := by
      intro wx hb
      as_aux_lemma =>
        subst hops htm
        refine wpAnyH_ready (rs := [2, 10, 11]) (by kernel_rfl) (by simp) ?_
        refine AllReadyH.cons rfl (fun K hK => ?_) ?_
        · (try simp only [List.getElem_toArray, List.getElem_cons_zero, List.getElem_cons_succ])
          go_simp
          refine (shift_out l a p neg false _ w.heap.size HTd.out.lead (digs_bytes HDg.out) hl8 ((HC.out.later HB2.out (Nat.le_refl _)).later hb.out HB2.out.size) pp0 pp1 aa0 aa1).mono ?_
          rintro e' w4 ⟨LL, PP, tt, hq, rfl, hb4⟩
          obtain ⟨rfl, _, _, _, _⟩ := X1.out _ _ _ hq
          have hbN : Hid (Below W2.heap.size W2 w4) := hb.out.trans (hb4.mono hb.out.size)
          have HQQ := Lib.hid hq
          clear hq hb4
          go_wp2_with fail
          refine hK.out _ _ ?_ (fun _ => ?_)
          · exact HSX _ hbN
          exact T1000.out LL PP HQQ w4 hbN
        refine AllReadyH.cons rfl (fun K hK => ?_) ?_
        · (try simp only [List.getElem_toArray, List.getElem_cons_zero, List.getElem_cons_succ])
          have hbN : Hid (Below W2.heap.size W2 (wx.alloc (.cells #[.string ⟨#[]⟩, .int .i64 0, .bool false, .bool false] 25))) := hb.out.alloc hb.out.size _
          have kN : Hid (Box (wx.alloc (.cells #[.string ⟨#[]⟩, .int .i64 0, .bool false, .bool false] 25)) 25 wx.heap.size #[.string ⟨#[]⟩, .int .i64 0, .bool false, .bool false]) := Box.new wx 25 #[.string ⟨#[]⟩, .int .i64 0, .bool false, .bool false]
          go_simp
          refine hK.out _ _ ?_ (fun _ => ?_)
          · exact HSX _ hbN
          exact T0100.out _ hbN wx.heap.size hb.out.size kN
        refine AllReadyH.cons rfl (fun K hK => ?_) ?_
        · (try simp only [List.getElem_toArray, List.getElem_cons_zero, List.getElem_cons_succ])
          have hbN : Hid (Below W2.heap.size W2 (wx.alloc (.cells #[.string ⟨#[]⟩, .int .i64 0, .bool false, .bool false] 25))) := hb.out.alloc hb.out.size _
          have kN : Hid (Box (wx.alloc (.cells #[.string ⟨#[]⟩, .int .i64 0, .bool false, .bool false] 25)) 25 wx.heap.size #[.string ⟨#[]⟩, .int .i64 0, .bool false, .bool false]) := Box.new wx 25 #[.string ⟨#[]⟩, .int .i64 0, .bool false, .bool false]
          go_simp
          refine hK.out _ _ ?_ (fun _ => ?_)
          · exact HSX _ hbN
          exact T0010.out _ hbN wx.heap.size hb.out.size kN
        exact AllReadyH.nil
    subst hops htm hSX
    exact T0000.out _ (Below.refl _ _).drew
end Go.Proofs.YtfndpecffhempaaDoor
