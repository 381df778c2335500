/- Decimal of the reference, by a contract: digits without zeros in front and behind, the point, the sign. -/
import Derived.Test.YtfkhingkmfapbaaOnly
import Derived.Test.YtfkhingkmfapbaaVal
namespace Go.Proofs.Ytfkhingkmfapbaa
open Go.RowKit

theorem headL_digs {l : List Nat} (h : Digs l) : Digs (headL l) := by
  induction l with
  | nil => exact h
  | cons c r ih =>
    unfold headL
    split
    · exact ih (fun x hx => h x (by simp [hx]))
    · exact h
theorem headL_len (l : List Nat) : (headL l).length ≤ l.length := by
  induction l with
  | nil => exact Nat.le_refl _
  | cons c r ih =>
    unfold headL
    split
    · simp; omega
    · exact Nat.le_refl _
theorem digs_reverse {l : List Nat} (h : Digs l) : Digs l.reverse := fun x hx => h x (by simpa using hx)
theorem tailL_digs {l : List Nat} (h : Digs l) : Digs (tailL l) := digs_reverse (headL_digs (digs_reverse h))
theorem tailL_len (l : List Nat) : (tailL l).length ≤ l.length := by
  have := headL_len l.reverse
  simpa [tailL] using this
theorem headL_first (l : List Nat) : headL l = [] ∨ nth (headL l) 0 ≠ 48 := by
  induction l with
  | nil => exact .inl rfl
  | cons c r ih =>
    unfold headL
    split
    · exact ih
    · rename_i h; right; simpa [nth] using h
theorem tailL_take (l : List Nat) : ∃ n, n ≤ l.length ∧ tailL l = l.take n ∧ ∀ i, n ≤ i → i < l.length → nth l i = 48 := by
  suffices ∀ k, ∀ m : List Nat, m.length = k → ∃ n, n ≤ m.length ∧ tailL m = m.take n ∧ ∀ i, n ≤ i → i < m.length → nth m i = 48 from this _ l rfl
  intro k
  induction k with
  | zero =>
    intro m hm
    obtain rfl := List.eq_nil_of_length_eq_zero hm
    exact ⟨0, Nat.le_refl _, rfl, fun i _ h => by simp at h⟩
  | succ k ih =>
    intro m hm
    by_cases h0 : nth m (m.length - 1) = 48
    · obtain ⟨n, h1, h2, h3⟩ := ih (m.take (m.length - 1)) (by simp; omega)
      simp only [List.length_take] at h1 h3
      refine ⟨n, by omega, ?_, fun i hi hl => ?_⟩
      · rw [tailL_hit (by omega) h0, h2, List.take_take, Nat.min_eq_left (by omega)]
      · by_cases e : i = m.length - 1
        · rw [e]; exact h0
        · have := h3 i hi (by omega)
          rw [← this]
          simp only [nth, List.getD_eq_getElem?_getD, List.getElem?_take]
          rw [if_pos (by omega)]
    · exact ⟨m.length, Nat.le_refl _, by rw [tailL_miss (by omega) h0, List.take_length], fun i h1 h2 => by omega⟩
theorem tailL_last (l : List Nat) : tailL l = [] ∨ nth (tailL l) ((tailL l).length - 1) ≠ 48 := by
  suffices ∀ k, ∀ m : List Nat, m.length = k → (tailL m = [] ∨ nth (tailL m) ((tailL m).length - 1) ≠ 48) from this _ l rfl
  intro k
  induction k with
  | zero => intro m hm; obtain rfl := List.eq_nil_of_length_eq_zero hm; exact .inl rfl
  | succ k ih =>
    intro m hm
    by_cases h0 : nth m (m.length - 1) = 48
    · rw [tailL_hit (by omega) h0]; exact ih _ (by simp; omega)
    · right; rw [tailL_miss (by omega) h0]; exact h0
/-- a decimal number's digits: none of them a zero in front or behind -/
def Neat (l : List Nat) : Prop := l = [] ∨ (nth l 0 ≠ 48 ∧ nth l (l.length - 1) ≠ 48)
theorem neat_tail {l : List Nat} (h : l = [] ∨ nth l 0 ≠ 48) : Neat (tailL l) := by
  by_cases hz : tailL l = []
  · exact .inl hz
  · right
    have h' := (tailL_last l).resolve_left hz
    refine ⟨?_, h'⟩
    obtain ⟨n, h1, h2, h3⟩ := tailL_take l
    have hn : n ≠ 0 := by rintro rfl; exact hz (by rw [h2, List.take_zero])
    rcases h with rfl | h
    · exact absurd rfl hz
    · rw [h2]
      have : nth (l.take n) 0 = nth l 0 := by simp only [nth, List.getD_eq_getElem?_getD, List.getElem?_take]; rw [if_pos (by omega)]
      rw [this]; exact h
/-- the digits of spec.Decimal -/
def sdL (l : List Nat) : List Nat := tailL (headL (onlyL l 400))
/-- its point -/
def sdP (l : List Nat) (p : Int) : Int := if (sdL l).length = 0 then 0 else p.tmod 400
theorem sdL_digs (l : List Nat) : Digs (sdL l) := tailL_digs (headL_digs (onlyL_digs l 400))
theorem sdL_len (l : List Nat) : (sdL l).length ≤ 400 := by
  have h1 := tailL_len (headL (onlyL l 400))
  have h2 := headL_len (onlyL l 400)
  have h3 := onlyL_len l 400
  unfold sdL; omega
theorem sdL_neat (l : List Nat) : Neat (sdL l) := neat_tail (headL_first _)
theorem tmod_400 (p : Int) : -400 < p.tmod 400 ∧ p.tmod 400 < 400 := by
  have h1 := Int.tmod_lt_of_pos p (show (0 : Int) < 400 by decide)
  have h2 := Int.lt_tmod_of_pos p (show (0 : Int) < 400 by decide)
  omega
theorem sdP_bounds (l : List Nat) (p : Int) : -400 < sdP l p ∧ sdP l p < 400 := by
  unfold sdP
  split
  · omega
  · exact tmod_400 p
theorem bs_isEmpty (l : List Nat) : (bs l).toList.isEmpty = decide (l.length = 0) := by
  rw [bs_toList]; cases l <;> simp

set_option maxHeartbeats 1000000 in
set_option maxRecDepth 100000 in
theorem sdecimal_any (l : List Nat) (p : Int) (neg : Bool) (w : World) (hB : Bytes l) (hl : l.length ≤ 9223372036854775807) (_p0 : -32768 ≤ p) (_p1 : p ≤ 32767) :
    Calls Try.prog 11 #[.string (bs l), .int .i16 p, .bool neg] w fun e w' => e = .returned (.agg #[.string (bs (sdL l)), .int .i64 (sdP l p), .bool neg, .bool false]) ∧ Below w.heap.size w w' := by
  have HB := Lib.hid hB
  have HO := Lib.hid (digs_bytes (onlyL_digs l 400))
  have HH := Lib.hid (digs_bytes (headL_digs (onlyL_digs l 400)))
  have HL : Hid ((headL (onlyL l 400)).length ≤ 9223372036854775807) := by
    have h2 := headL_len (onlyL l 400)
    have h3 := onlyL_len l 400
    show _ ≤ _
    omega
  clear hB
  go_enter Try.func11, Try.ntmps11
  go_wp2_with fail
  refine (only_any l 400 _ HB.out (by decide) hl).mono ?_
  rintro e w1 ⟨rfl, hb1⟩
  have HB1 := Lib.hid hb1
  have HK := Lib.hid (Box.new w 25 #[.string ⟨#[]⟩, .int .i64 0, .bool false, .bool false])
  clear hb1
  go_wp2_with fail
  refine (head_any _ _ HO.out).mono ?_
  rintro e w2 ⟨rfl, rfl⟩
  go_wp2_with fail
  refine (tail_any _ _ HH.out HL.out).mono ?_
  rintro e w3 ⟨rfl, rfl⟩
  rw [show tailL (headL (onlyL l 400)) = sdL l from rfl]
  have hB2 : Box w1 25 w.heap.size #[.string ⟨#[]⟩, .int .i64 0, .bool false, .bool false] := HK.out.later HB1.out (by simp)
  have c0 : w1.cell? ⟨w.heap.size, 0, none⟩ = some (.string ⟨#[]⟩) := by rw [hB2.cell 0]; rfl
  have c1 : w1.cell? ⟨w.heap.size, 1, none⟩ = some (.int .i64 0) := by rw [hB2.cell 1]; rfl
  have c2 : w1.cell? ⟨w.heap.size, 2, none⟩ = some (.bool false) := by rw [hB2.cell 2]; rfl
  have c3 : w1.cell? ⟨w.heap.size, 3, none⟩ = some (.bool false) := by rw [hB2.cell 3]; rfl
  have f0 : w1.frozen? ⟨w.heap.size, 0, none⟩ = false := hB2.frozen 0
  have f1 : w1.frozen? ⟨w.heap.size, 1, none⟩ = false := hB2.frozen 1
  have f2 : w1.frozen? ⟨w.heap.size, 2, none⟩ = false := hB2.frozen 2
  have f3 : w1.frozen? ⟨w.heap.size, 3, none⟩ = false := hB2.frozen 3
  have HX := Lib.hid hB2
  clear hB2
  have HBel : Hid (∀ (x : Value) (y : Value) (z : Value) (t : Value), Below w.heap.size w ((((w1.setCell ⟨w.heap.size, 0, none⟩ x).setCell ⟨w.heap.size, 1, none⟩ y).setCell ⟨w.heap.size, 2, none⟩ z).setCell ⟨w.heap.size, 3, none⟩ t)) := fun x y z t =>
    (((((below_new w _).trans (HB1.out.mono (by simp))).setCell (p := ⟨w.heap.size, 0, none⟩) (Nat.le_refl _) x).setCell (p := ⟨w.heap.size, 1, none⟩) (Nat.le_refl _) y).setCell (p := ⟨w.heap.size, 2, none⟩) (Nat.le_refl _) z).setCell (p := ⟨w.heap.size, 3, none⟩) (Nat.le_refl _) t
  by_cases h0 : (sdL l).length = 0
  · have hE : (bs (sdL l)).toList.isEmpty = true := by rw [bs_isEmpty, h0]; rfl
    have HN := Lib.hid (List.eq_nil_of_length_eq_zero h0)
    have HP : Hid (sdP l p = 0) := by show _ = _; rw [sdP, if_pos h0]
    clear h0
    go_wp2_with fail
    have b1 := HX.out.set 0 (.string ⟨#[]⟩)
    have b2 := b1.set 1 (.int .i64 0)
    have b3 := b2.set 2 (.bool neg)
    have b4 := b3.set 3 (.bool false)
    have q0 := b1.cell 0
    have q1 := b2.cell 1
    have q2 := b3.cell 2
    have q3 := b4.cell 3
    rw [HP.out, HN.out]
    exact bodyPost_ret (v := .agg #[.string (bs []), .int .i64 0, .bool neg, .bool false]) (by simp [results, Try.results11, go_sem, q0, q1, q2, q3]; rfl) rfl ⟨rfl, HBel.out _ _ _ _⟩
  · have hE : (bs (sdL l)).toList.isEmpty = false := by rw [bs_isEmpty]; simpa using h0
    have HP : Hid (sdP l p = p.tmod 400) := by show _ = _; rw [sdP, if_neg h0]
    obtain ⟨hm1, hm2⟩ := tmod_400 p
    clear h0
    go_wp2_with fail
    have b1 := HX.out.set 0 (.string (bs (sdL l)))
    have b2 := b1.set 1 (.int .i64 (p.tmod 400))
    have b3 := b2.set 2 (.bool neg)
    have b4 := b3.set 3 (.bool false)
    have q0 := b1.cell 0
    have q1 := b2.cell 1
    have q2 := b3.cell 2
    have q3 := b4.cell 3
    rw [HP.out]
    exact bodyPost_ret (v := .agg #[.string (bs (sdL l)), .int .i64 (p.tmod 400), .bool neg, .bool false]) (by simp [results, Try.results11, go_sem, q0, q1, q2, q3]) rfl ⟨rfl, HBel.out _ _ _ _⟩
end Go.Proofs.Ytfkhingkmfapbaa
