/- Tidy and Shifted of the reference, by contracts. -/
import Derived.Test.YtfndpecffhempaaDoorShC
namespace Go.Proofs.YtfndpecffhempaaDoor
open Go.RowKit

/-- no digits and no point, or digits without zeros in front and behind -/
def Tidy (L : List Nat) (P : Int) : Prop := (L.length = 0 ∧ P = 0) ∨ (Lead L ∧ nth L (L.length - 1) ≠ 48)
theorem Tidy.digs {L : List Nat} {P : Int} (h : Tidy L P) : Digs L := by
  rcases h with ⟨h, _⟩ | ⟨h, _⟩
  · rw [List.eq_nil_of_length_eq_zero h]; intro x hx; simp at hx
  · exact h.1

set_option maxHeartbeats 1000000 in
set_option maxRecDepth 100000 in
theorem tidy_any (L : List Nat) (P : Int) (neg tr : Bool) (w : World) (h : Tidy L P) (hl : L.length ≤ 800) :
    Calls Tryd.prog 13 #[.agg #[.string (bs L), .int .i64 P, .bool neg, .bool tr]] w fun e w' => e = .returned (.bool true) ∧ Below w.heap.size w w' := by
  have hsz := bs_size L
  have hget := get_bs L (digs_bytes h.digs)
  have HD := Lib.hid h.digs
  have HK := Lib.hid (Box.new w 25 #[.string (bs L), .int .i64 P, .bool neg, .bool tr])
  have HW := Lib.hid (below_new w (.cells #[.string (bs L), .int .i64 P, .bool neg, .bool tr] 25))
  have HTd := Lib.hid h
  clear h
  go_enter Tryd.func13, Tryd.ntmps13
  go_wp2_with fail
  generalize w.alloc (.cells #[.string (bs L), .int .i64 P, .bool neg, .bool tr] 25) = W at *
  have c0 : W.cell? ⟨w.heap.size, 0, none⟩ = some (.string (bs L)) := by rw [HK.out.cell 0]; rfl
  have c1 : W.cell? ⟨w.heap.size, 1, none⟩ = some (.int .i64 P) := by rw [HK.out.cell 1]; rfl
  go_loop [3] (fun i => ∃ j : Nat, j ≤ L.length ∧ i = .int .i64 (j : Int)) (fun i => L.length - (intOf i).toNat)
  case atStart => exact ⟨0, by omega, rfl⟩
  case round =>
    obtain ⟨j, hj, rfl⟩ := hrel
    by_cases hlt : j < L.length
    · have hx := digs_nth HD.out hlt
      have t1 : decide ((nth L j : Int) < 48) = false := by simp; omega
      have t2 : decide ((57 : Int) < (nth L j : Int)) = false := by simp; omega
      go_wp2_with fail
      go_round
      case rel => exact ⟨j + 1, by omega, by go_num⟩
      case measure => simp [intOf]; omega
    · rcases HTd.out with ⟨h0, hP⟩ | ⟨h1, h2⟩
      · have hE : (bs L).toList.isEmpty = true := by rw [bs_isEmpty, h0]; rfl
        subst hP
        clear h0
        go_wp2_with fail
        go_ret
        exact ⟨rfl, HW.out⟩
      · have hlen := h1.2.1
        have hE : (bs L).toList.isEmpty = false := by rw [bs_isEmpty]; simp; intro hh; rw [hh] at hlen; simp at hlen
        have hx0 := digs_nth h1.1 (k := 0) hlen
        have hx1 := digs_nth h1.1 (k := L.length - 1) (by omega)
        have t1 : ((nth L 0 : Int) != 48) = true := by have := h1.2.2; simp; omega
        have t2 : ((nth L (L.length - 1) : Int) != 48) = true := by simp; omega
        have h1' : (1 : Int) ≤ (L.length : Int) := by omega
        clear h1 h2
        go_wp2_with fail
        go_ret
        exact ⟨rfl, HW.out⟩
theorem sd_tidy (l : List Nat) (p : Int) : Tidy (sdL l) (sdP l p) := by
  by_cases h : (sdL l).length = 0
  · exact .inl ⟨h, by unfold sdP; rw [if_pos h]⟩
  · rcases sdL_neat l with e | ⟨e1, e2⟩
    · exact absurd (by rw [e]; rfl) h
    · exact .inr ⟨⟨sdL_digs l, by omega, e1⟩, e2⟩
theorem Tidy.lead {L : List Nat} {P : Int} (h : Tidy L P) : L.length ≠ 0 → Lead L := fun h0 => by
  rcases h with ⟨h, _⟩ | ⟨h, _⟩
  · exact absurd h h0
  · exact h
end Go.Proofs.YtfndpecffhempaaDoor
