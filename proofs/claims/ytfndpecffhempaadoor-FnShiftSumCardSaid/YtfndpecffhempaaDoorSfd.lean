/- Shifted of the reference, by contracts. Written by gen_sfd.py. -/
import Derived.Test.YtfndpecffhempaaDoorCmp
import Derived.Test.YtfndpecffhempaaDoorVD
namespace Go.Proofs.YtfndpecffhempaaDoor
open Go.RowKit

theorem natShl_nat (va : Value) (a n : Nat) (w : World) (ha : IsNat w va a) (hl : Num.len a ≤ 100000) (n1 : n ≤ 1000000) : Calls Tryd.prog 32 #[va, .int .i64 (n : Int)] w (GivesNat (a * 2 ^ n) w) := by
  have h := natShl_any va a (n : Int) w ha hl (by omega) (by omega)
  rwa [Int.toNat_natCast] at h

set_option maxHeartbeats 1000000 in
set_option maxRecDepth 100000 in
theorem shifted_up (r : Value) (num den k : Nat) (w : World) (hr : RatioIs w r num den) (hk : k ≤ 1000) (l1 : Num.len num ≤ 10000) :
    Calls Tryd.prog 15 #[r, .int .i64 ((k : Int))] w (GivesRatio (num * 2 ^ k) (den) w) := by
  obtain ⟨vn, vd, rfl, hn, hd⟩ := hr
  obtain ⟨An, cn, rfl, _, _⟩ := natLen_shape hn
  obtain ⟨Ad, cd, rfl, _, _⟩ := natLen_shape hd
  have HN := Lib.hid hn
  have HD := Lib.hid hd
  clear hn hd
  have hW : Below w.heap.size w ((w.alloc (.cells #[.slice An (Num.len num) cn, .slice Ad (Num.len den) cd] 31)).alloc (.cells #[.slice none 0 0, .slice none 0 0] 31)) :=
    ((Below.refl _ _).alloc (Nat.le_refl _) _).alloc (by simp) _
  have B0 : Box ((w.alloc (.cells #[.slice An (Num.len num) cn, .slice Ad (Num.len den) cd] 31)).alloc (.cells #[.slice none 0 0, .slice none 0 0] 31)) 31 w.heap.size #[.slice An (Num.len num) cn, .slice Ad (Num.len den) cd] := (Box.new w _ _).alloc _
  have B1 : Box ((w.alloc (.cells #[.slice An (Num.len num) cn, .slice Ad (Num.len den) cd] 31)).alloc (.cells #[.slice none 0 0, .slice none 0 0] 31)) 31 (w.heap.size + 1) #[.slice none 0 0, .slice none 0 0] := by
    have := Box.new (w.alloc (.cells #[.slice An (Num.len num) cn, .slice Ad (Num.len den) cd] 31)) 31 #[.slice none 0 0, .slice none 0 0]
    simpa using this
  have HW := Lib.hid hW
  have HB0 := Lib.hid B0
  have HB1 := Lib.hid B1
  clear hW B0 B1
  have hk0 : (0 : Int) ≤ (k : Int) := by omega
  go_enter Tryd.func15, Tryd.ntmps15
  go_wp2_with fail
  generalize (w.alloc (.cells #[.slice An (Num.len num) cn, .slice Ad (Num.len den) cd] 31)).alloc (.cells #[.slice none 0 0, .slice none 0 0] 31) = W at *
  have HNW := Lib.hid (HN.out.later HW.out)
  have HDW := Lib.hid (HD.out.later HW.out)
  have c0 : W.cell? ⟨w.heap.size, 0, none⟩ = some (.slice An (Num.len num) cn) := by rw [HB0.out.cell 0]; rfl
  have c1 : W.cell? ⟨w.heap.size, 1, none⟩ = some (.slice Ad (Num.len den) cd) := by rw [HB0.out.cell 1]; rfl
  go_region_held3 (fun w' => w'.cell? ⟨w.heap.size, 0, none⟩ = some (.slice An (Num.len num) cn) ∧ w'.cell? ⟨w.heap.size, 1, none⟩ = some (.slice Ad (Num.len den) cd))
    (first | exact ⟨c0, c1⟩ | exact ⟨d0, d1⟩ | exact ⟨by rw [G.cell 0]; rfl, by rw [G.cell 1]; rfl⟩)
    (first
      | (go_at_call 32; refine (natShl_nat _ num k _ HNW.out.drew (by omega) (by omega)).mono ?_; rintro e' w4 ⟨v4, rfl, hv4, hb4'⟩; have hb4 := undrew hb4'; obtain ⟨A4, c4, rfl, _, _⟩ := natLen_shape hv4; have d0 := (hb4.cell (p := ⟨w.heap.size, 0, none⟩) HB0.out.lt).trans c0; have d1 := (hb4.cell (p := ⟨w.heap.size, 1, none⟩) HB0.out.lt).trans c1; have K0 := HB1.out.later hb4 HB1.out.lt; have a0 : w4.cell? ⟨w.heap.size + 1, 0, none⟩ = some (.slice none 0 0) := by { rw [K0.cell 0]; rfl }; have a1 : w4.cell? ⟨w.heap.size + 1, 1, none⟩ = some (.slice none 0 0) := by { rw [K0.cell 1]; rfl }; have f0 : w4.frozen? ⟨w.heap.size + 1, 0, none⟩ = false := K0.frozen 0; have f1 : w4.frozen? ⟨w.heap.size + 1, 1, none⟩ = false := K0.frozen 1; have G := ((HB0.out.later hb4 HB0.out.lt).far (p := ⟨w.heap.size + 1, 0, none⟩) (by simp) (.slice A4 (Num.len (num * 2 ^ k)) c4)).far (p := ⟨w.heap.size + 1, 1, none⟩) (by simp) (.slice Ad (Num.len den) cd)))
  all_goals
    have HK := Lib.hid K0
    have HN4 := Lib.hid hv4
    have HD4 := Lib.hid (HDW.out.later hb4)
    have HB6 := Lib.hid (HW.out.trans (hb4.mono HW.out.size))
    have q0 : (w4.setCell ⟨w.heap.size + 1, 0, none⟩ (.slice A4 (Num.len (num * 2 ^ k)) c4)).cell? ⟨w.heap.size + 1, 0, none⟩ = some (.slice A4 (Num.len (num * 2 ^ k)) c4) := by rw [(HK.out.set 0 _).cell 0]; rfl
    have q1 : ((w4.setCell ⟨w.heap.size + 1, 0, none⟩ (.slice A4 (Num.len (num * 2 ^ k)) c4)).setCell ⟨w.heap.size + 1, 1, none⟩ (.slice Ad (Num.len den) cd)).cell? ⟨w.heap.size + 1, 1, none⟩ = some (.slice Ad (Num.len den) cd) := by rw [((HK.out.set 0 _).set 1 _).cell 1]; rfl
    clear hv4 K0 G a0 a1 f0 f1 d0 d1 c0 c1 hb4 hb4'
    go_wp2_with fail
    refine bodyPost_ret (v := .agg #[(.slice A4 (Num.len (num * 2 ^ k)) c4), (.slice Ad (Num.len den) cd)]) (by simp [results, Tryd.results15, go_sem, q0, q1]) rfl ⟨_, _, rfl, ?_, ?_, ?_⟩
    · exact (HN4.out.far HK.out (by decide) 0 _).far (HK.out.set 0 _) (by decide) 1 _
    · exact (HD4.out.far HK.out (by decide) 0 _).far (HK.out.set 0 _) (by decide) 1 _
    · exact (HB6.out.setCell (by show _ ≤ _; simp) _).setCell (by show _ ≤ _; simp) _

set_option maxHeartbeats 1000000 in
set_option maxRecDepth 100000 in
theorem shifted_down (r : Value) (num den k : Nat) (w : World) (hr : RatioIs w r num den) (hk1 : 1 ≤ k) (hk : k ≤ 1000) (l1 : Num.len den ≤ 10000) :
    Calls Tryd.prog 15 #[r, .int .i64 (-(k : Int))] w (GivesRatio (num) (den * 2 ^ k) w) := by
  obtain ⟨vn, vd, rfl, hn, hd⟩ := hr
  obtain ⟨An, cn, rfl, _, _⟩ := natLen_shape hn
  obtain ⟨Ad, cd, rfl, _, _⟩ := natLen_shape hd
  have HN := Lib.hid hn
  have HD := Lib.hid hd
  clear hn hd
  have hW : Below w.heap.size w ((w.alloc (.cells #[.slice An (Num.len num) cn, .slice Ad (Num.len den) cd] 31)).alloc (.cells #[.slice none 0 0, .slice none 0 0] 31)) :=
    ((Below.refl _ _).alloc (Nat.le_refl _) _).alloc (by simp) _
  have B0 : Box ((w.alloc (.cells #[.slice An (Num.len num) cn, .slice Ad (Num.len den) cd] 31)).alloc (.cells #[.slice none 0 0, .slice none 0 0] 31)) 31 w.heap.size #[.slice An (Num.len num) cn, .slice Ad (Num.len den) cd] := (Box.new w _ _).alloc _
  have B1 : Box ((w.alloc (.cells #[.slice An (Num.len num) cn, .slice Ad (Num.len den) cd] 31)).alloc (.cells #[.slice none 0 0, .slice none 0 0] 31)) 31 (w.heap.size + 1) #[.slice none 0 0, .slice none 0 0] := by
    have := Box.new (w.alloc (.cells #[.slice An (Num.len num) cn, .slice Ad (Num.len den) cd] 31)) 31 #[.slice none 0 0, .slice none 0 0]
    simpa using this
  have HW := Lib.hid hW
  have HB0 := Lib.hid B0
  have HB1 := Lib.hid B1
  clear hW B0 B1
  have hk0 : ¬ (0 : Int) ≤ -(k : Int) := by omega
  have hk6 : k ≤ 1000000 := by omega
  have hl6 : Num.len den ≤ 100000 := by omega
  have hng : IntKind.i64.wrap (- -(k : Int)) = (k : Int) := by rw [Int.neg_neg]; exact IntWalk.i64_in _ (by omega)
  have hng2 : IntKind.i64.wrap (k : Int) = (k : Int) := IntWalk.i64_in _ (by omega)
  go_enter Tryd.func15, Tryd.ntmps15
  go_wp2_with fail
  generalize (w.alloc (.cells #[.slice An (Num.len num) cn, .slice Ad (Num.len den) cd] 31)).alloc (.cells #[.slice none 0 0, .slice none 0 0] 31) = W at *
  have HNW := Lib.hid (HN.out.later HW.out)
  have HDW := Lib.hid (HD.out.later HW.out)
  have c0 : W.cell? ⟨w.heap.size, 0, none⟩ = some (.slice An (Num.len num) cn) := by rw [HB0.out.cell 0]; rfl
  have c1 : W.cell? ⟨w.heap.size, 1, none⟩ = some (.slice Ad (Num.len den) cd) := by rw [HB0.out.cell 1]; rfl
  go_region_held3 (fun w' => w'.cell? ⟨w.heap.size, 0, none⟩ = some (.slice An (Num.len num) cn) ∧ w'.cell? ⟨w.heap.size, 1, none⟩ = some (.slice Ad (Num.len den) cd))
    (first | exact ⟨c0, c1⟩ | exact ⟨d0, d1⟩ | exact ⟨by rw [G.cell 0]; rfl, by rw [G.cell 1]; rfl⟩)
    (first
      | (go_at_call 32; refine (natShl_nat _ den k _ HDW.out.drew hl6 hk6).mono ?_; rintro e' w4 ⟨v4, rfl, hv4, hb4'⟩; have hb4 := undrew hb4'; obtain ⟨A4, c4, rfl, _, _⟩ := natLen_shape hv4; have d0 := (hb4.cell (p := ⟨w.heap.size, 0, none⟩) HB0.out.lt).trans c0; have d1 := (hb4.cell (p := ⟨w.heap.size, 1, none⟩) HB0.out.lt).trans c1; have K0 := HB1.out.later hb4 HB1.out.lt; have a0 : w4.cell? ⟨w.heap.size + 1, 0, none⟩ = some (.slice none 0 0) := by { rw [K0.cell 0]; rfl }; have a1 : w4.cell? ⟨w.heap.size + 1, 1, none⟩ = some (.slice none 0 0) := by { rw [K0.cell 1]; rfl }; have f0 : w4.frozen? ⟨w.heap.size + 1, 0, none⟩ = false := K0.frozen 0; have f1 : w4.frozen? ⟨w.heap.size + 1, 1, none⟩ = false := K0.frozen 1; have G := ((HB0.out.later hb4 HB0.out.lt).far (p := ⟨w.heap.size + 1, 0, none⟩) (by simp) (.slice An (Num.len num) cn)).far (p := ⟨w.heap.size + 1, 1, none⟩) (by simp) (.slice A4 (Num.len (den * 2 ^ k)) c4)))
  all_goals
    have HK := Lib.hid K0
    have HN4 := Lib.hid (HNW.out.later hb4)
    have HD4 := Lib.hid hv4
    have HB6 := Lib.hid (HW.out.trans (hb4.mono HW.out.size))
    have q0 : (w4.setCell ⟨w.heap.size + 1, 0, none⟩ (.slice An (Num.len num) cn)).cell? ⟨w.heap.size + 1, 0, none⟩ = some (.slice An (Num.len num) cn) := by rw [(HK.out.set 0 _).cell 0]; rfl
    have q1 : ((w4.setCell ⟨w.heap.size + 1, 0, none⟩ (.slice An (Num.len num) cn)).setCell ⟨w.heap.size + 1, 1, none⟩ (.slice A4 (Num.len (den * 2 ^ k)) c4)).cell? ⟨w.heap.size + 1, 1, none⟩ = some (.slice A4 (Num.len (den * 2 ^ k)) c4) := by rw [((HK.out.set 0 _).set 1 _).cell 1]; rfl
    clear hv4 K0 G a0 a1 f0 f1 d0 d1 c0 c1 hb4 hb4'
    go_wp2_with fail
    refine bodyPost_ret (v := .agg #[(.slice An (Num.len num) cn), (.slice A4 (Num.len (den * 2 ^ k)) c4)]) (by simp [results, Tryd.results15, go_sem, q0, q1]) rfl ⟨_, _, rfl, ?_, ?_, ?_⟩
    · exact (HN4.out.far HK.out (by decide) 0 _).far (HK.out.set 0 _) (by decide) 1 _
    · exact (HD4.out.far HK.out (by decide) 0 _).far (HK.out.set 0 _) (by decide) 1 _
    · exact (HB6.out.setCell (by show _ ≤ _; simp) _).setCell (by show _ ≤ _; simp) _

theorem shifted_all (r : Value) (num den : Nat) (K : Int) (w : World) (hr : RatioIs w r num den) (k0 : -1000 ≤ K) (k1 : K ≤ 1000) (l1 : Num.len num ≤ 10000) (l2 : Num.len den ≤ 10000) :
    Calls Tryd.prog 15 #[r, .int .i64 K] w (GivesRatio (num * 2 ^ K.toNat) (den * 2 ^ (-K).toNat) w) := by
  by_cases h : 0 ≤ K
  · obtain ⟨k, rfl⟩ := Int.eq_ofNat_of_zero_le h
    have := shifted_up r num den k w hr (by omega) l1
    rw [show ((k : Int)).toNat = k by omega, show (-(k : Int)).toNat = 0 by omega, Nat.pow_zero, Nat.mul_one]
    exact this
  · obtain ⟨k, rfl⟩ : ∃ k : Nat, K = -(k : Int) := ⟨K.natAbs, by omega⟩
    have := shifted_down r num den k w hr (by omega) (by omega) l2
    rw [show (-(k : Int)).toNat = 0 by omega, show (- -(k : Int)).toNat = k by omega, Nat.pow_zero, Nat.mul_one]
    exact this
end Go.Proofs.YtfndpecffhempaaDoor
