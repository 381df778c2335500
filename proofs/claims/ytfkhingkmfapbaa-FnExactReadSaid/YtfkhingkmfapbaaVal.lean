/- Value of the reference, by a contract: the ratio of a decimal number. -/
import Derived.Test.YtfkhingkmfapbaaDig
import Derived.Test.YtfkhingkmfapbaaCmp
namespace Go.Proofs.Ytfkhingkmfapbaa
open Go.RowKit

/-- a decimal number as a value -/
def decV (l : List Nat) (p : Int) (neg tr : Bool) : Value := .agg #[.string (bs l), .int .i64 p, .bool neg, .bool tr]
/-- its ratio -/
def numV (l : List Nat) (p : Int) : Nat := valD l * 10 ^ (p - l.length).toNat
def denV (l : List Nat) (p : Int) : Nat := 10 ^ ((l.length : Int) - p).toNat

theorem times_val (v : Value) (l : List Nat) (p : Int) (w : World) (hm : IsNat w v (valD l)) (hl : Num.len (valD l) ≤ 210) (p0 : -5000 ≤ p - (l.length : Int)) (p1 : p - (l.length : Int) ≤ 5000) :
    Calls Try.prog 23 #[v, .int .i64 0, .int .i64 (p - (l.length : Int))] w (GivesRatio (numV l p) (denV l p) w) := by
  have h := times_any v (valD l) 0 (p - (l.length : Int)) w hm (by omega) (by omega) (by omega) p0 p1
  have e1 : valD l * 2 ^ (0 : Int).toNat * 10 ^ (p - (l.length : Int)).toNat = numV l p := by simp [numV]
  have e2 : 2 ^ (-(0 : Int)).toNat * 10 ^ (-(p - (l.length : Int))).toNat = denV l p := by unfold denV; rw [show -(p - (l.length : Int)) = (l.length : Int) - p by omega]; simp
  rw [e1, e2] at h
  exact h

set_option maxHeartbeats 1000000 in
set_option maxRecDepth 100000 in
theorem value_any (l : List Nat) (p : Int) (neg tr : Bool) (w : World) (hd : Digs l) (hl : l.length ≤ 1600) (p0 : -3000 ≤ p) (p1 : p ≤ 3000) :
    Calls Try.prog 13 #[.agg #[.string (bs l), .int .i64 p, .bool neg, .bool tr]] w (GivesRatio (numV l p) (denV l p) w) := by
  have hsz := bs_size l
  have HD := Lib.hid hd
  have HLv := Lib.hid (valD_len hd hl)
  clear hd
  have hW : Below w.heap.size w ((w.alloc (.cells #[.string (bs l), .int .i64 p, .bool neg, .bool tr] 25)).alloc (.cells #[.slice none 0 0, .slice none 0 0] 31)) :=
    ((Below.refl _ _).alloc (Nat.le_refl _) _).alloc (by simp) _
  have B0 : Box ((w.alloc (.cells #[.string (bs l), .int .i64 p, .bool neg, .bool tr] 25)).alloc (.cells #[.slice none 0 0, .slice none 0 0] 31)) 25 w.heap.size #[.string (bs l), .int .i64 p, .bool neg, .bool tr] := (Box.new w _ _).alloc _
  have B1 : Box ((w.alloc (.cells #[.string (bs l), .int .i64 p, .bool neg, .bool tr] 25)).alloc (.cells #[.slice none 0 0, .slice none 0 0] 31)) 31 (w.heap.size + 1) #[.slice none 0 0, .slice none 0 0] := by
    have := Box.new (w.alloc (.cells #[.string (bs l), .int .i64 p, .bool neg, .bool tr] 25)) 31 #[.slice none 0 0, .slice none 0 0]
    simpa using this
  have HW := Lib.hid hW
  have HB0 := Lib.hid B0
  have HB1 := Lib.hid B1
  clear hW B0 B1
  go_enter Try.func13, Try.ntmps13
  go_wp2_with fail
  generalize (w.alloc (.cells #[.string (bs l), .int .i64 p, .bool neg, .bool tr] 25)).alloc (.cells #[.slice none 0 0, .slice none 0 0] 31) = W at *
  have c0 : W.cell? ⟨w.heap.size, 0, none⟩ = some (.string (bs l)) := by rw [HB0.out.cell 0]; rfl
  have c1 : W.cell? ⟨w.heap.size, 1, none⟩ = some (.int .i64 p) := by rw [HB0.out.cell 1]; rfl
  have hwp : IntKind.i64.wrap (p - (l.length : Int)) = p - (l.length : Int) := IntWalk.i64_in _ (by omega)
  have hq1 : -5000 ≤ p - (l.length : Int) := by omega
  have hq2 : p - (l.length : Int) ≤ 5000 := by omega
  go_region_held3 (fun w' => w'.cell? ⟨w.heap.size, 0, none⟩ = some (.string (bs l)) ∧ w'.cell? ⟨w.heap.size, 1, none⟩ = some (.int .i64 p))
    (first | exact ⟨c0, c1⟩ | exact ⟨d0, d1⟩ | exact ⟨e0, e1⟩ | exact ⟨by rw [G.cell 0]; rfl, by rw [G.cell 1]; rfl⟩)
    (first
      | (go_at_call 24; refine (digits_any l _ HD.out hl).mono ?_; rintro e' w4 ⟨v4, rfl, hv4, hb4'⟩; have hb4 := undrew hb4'; have d0 := (hb4.cell (p := ⟨w.heap.size, 0, none⟩) HB0.out.lt).trans c0; have d1 := (hb4.cell (p := ⟨w.heap.size, 1, none⟩) HB0.out.lt).trans c1)
      | (go_at_call 23; refine (times_val _ l p _ hv4 HLv.out hq1 hq2).mono ?_; rintro e' w5 ⟨vn, vd, rfl, hn, hdn, hb5⟩; obtain ⟨An, cn, rfl, _, _⟩ := natLen_shape hn; obtain ⟨Ad, cd, rfl, _, _⟩ := natLen_shape hdn; have hb6 := hb4.trans (hb5.mono hb4.size); have e0 := (hb6.cell (p := ⟨w.heap.size, 0, none⟩) HB0.out.lt).trans c0; have e1 := (hb6.cell (p := ⟨w.heap.size, 1, none⟩) HB0.out.lt).trans c1; have K0 := HB1.out.later hb6 HB1.out.lt; have a0 : w5.cell? ⟨w.heap.size + 1, 0, none⟩ = some (.slice none 0 0) := by { rw [K0.cell 0]; rfl }; have a1 : w5.cell? ⟨w.heap.size + 1, 1, none⟩ = some (.slice none 0 0) := by { rw [K0.cell 1]; rfl }; have f0 : w5.frozen? ⟨w.heap.size + 1, 0, none⟩ = false := K0.frozen 0; have f1 : w5.frozen? ⟨w.heap.size + 1, 1, none⟩ = false := K0.frozen 1; have G := ((HB0.out.later hb6 HB0.out.lt).far (p := ⟨w.heap.size + 1, 0, none⟩) (by simp) (.slice An (Num.len (numV l p)) cn)).far (p := ⟨w.heap.size + 1, 1, none⟩) (by simp) (.slice Ad (Num.len (denV l p)) cd)))
  all_goals
    have HK := Lib.hid K0
    have HN := Lib.hid hn
    have HDn := Lib.hid hdn
    have HB6 := Lib.hid (HW.out.trans (hb6.mono HW.out.size))
    have q0 : (w5.setCell ⟨w.heap.size + 1, 0, none⟩ (.slice An (Num.len (numV l p)) cn)).cell? ⟨w.heap.size + 1, 0, none⟩ = some (.slice An (Num.len (numV l p)) cn) := by rw [(HK.out.set 0 _).cell 0]; rfl
    have q1 : ((w5.setCell ⟨w.heap.size + 1, 0, none⟩ (.slice An (Num.len (numV l p)) cn)).setCell ⟨w.heap.size + 1, 1, none⟩ (.slice Ad (Num.len (denV l p)) cd)).cell? ⟨w.heap.size + 1, 1, none⟩ = some (.slice Ad (Num.len (denV l p)) cd) := by rw [((HK.out.set 0 _).set 1 _).cell 1]; rfl
    clear hn hdn K0 G a0 a1 f0 f1 e0 e1 d0 d1 c0 c1 hb4 hb4' hb5 hb6 hv4
    go_wp2_with fail
    refine bodyPost_ret (v := .agg #[.slice An (Num.len (numV l p)) cn, .slice Ad (Num.len (denV l p)) cd]) (by simp [results, Try.results13, go_sem, q0, q1]) rfl ⟨_, _, rfl, ?_, ?_, ?_⟩
    · exact (HN.out.far HK.out (by decide) 0 _).far (HK.out.set 0 _) (by decide) 1 _
    · exact (HDn.out.far HK.out (by decide) 0 _).far (HK.out.set 0 _) (by decide) 1 _
    · exact (HB6.out.setCell (by show _ ≤ _; simp) _).setCell (by show _ ≤ _; simp) _
end Go.Proofs.Ytfkhingkmfapbaa
