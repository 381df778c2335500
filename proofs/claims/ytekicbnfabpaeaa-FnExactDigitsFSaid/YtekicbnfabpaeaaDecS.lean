/- Assign of the package's decimals, by a contract: the decimal digits of a number, without zeros behind. -/
import Derived.Test.YtekicbnfabpaeaaDecT
namespace Go.Proofs.Ytekicbnfabpaeaa
open Go.RowKit

/-- the digits of a number, the lowest first; none of 0 -/
def lowD (v : Nat) : List Nat := if v = 0 then [] else (48 + v % 10) :: lowD (v / 10)
termination_by v
decreasing_by omega
theorem lowD_zero : lowD 0 = [] := by rw [lowD, if_pos rfl]
theorem lowD_pos {v : Nat} (h : v ≠ 0) : lowD v = (48 + v % 10) :: lowD (v / 10) := by rw [lowD, if_neg h]
theorem lowD_digs (v : Nat) : Digs (lowD v) := by
  induction v using Nat.strongRecOn with
  | _ v ih =>
    by_cases h : v = 0
    · subst h; rw [lowD_zero]; intro x hx; simp at hx
    · rw [lowD_pos h]
      intro x hx
      rcases List.mem_cons.1 hx with rfl | hx
      · omega
      · exact ih _ (by omega) x hx
theorem lowD_len {v k : Nat} (h : v < 10 ^ k) : (lowD v).length ≤ k := by
  induction k generalizing v with
  | zero => have : v = 0 := by simpa using h
            subst this; rw [lowD_zero]; simp
  | succ k ih =>
    by_cases h0 : v = 0
    · subst h0; rw [lowD_zero]; simp
    · rw [lowD_pos h0]
      have := ih (v := v / 10) (by rw [Nat.div_lt_iff_lt_mul (by omega)]; rw [Nat.pow_succ] at h; exact h)
      simp; omega
/-- the digits, the highest first -/
theorem lowD_dec {v : Nat} (h : v ≠ 0) : (lowD v).reverse = decL v := by
  induction v using Nat.strongRecOn with
  | _ v ih =>
    rw [lowD_pos h, List.reverse_cons]
    by_cases h10 : v < 10
    · rw [decL_small h10, Nat.div_eq_of_lt h10, lowD_zero, Nat.mod_eq_of_lt h10]; rfl
    · rw [decL_big h10, ih (v / 10) (by omega) (by omega)]

def byteCells (l : List Nat) : Array Value := (l.map fun (n : Nat) => Value.int .u8 (n : Int)).toArray
theorem byteCells_at {l : List Nat} {i : Nat} (hi : i < l.length) : (byteCells l)[i]? = some (.int .u8 (nth l i : Int)) := by
  unfold byteCells
  simp [nth, List.getD_eq_getElem?_getD, hi]
theorem byteCells_set (l : List Nat) (i c : Nat) : (byteCells l).setIfInBounds i (.int .u8 (c : Int)) = byteCells (l.set i c) := by
  unfold byteCells
  rw [List.setIfInBounds_toArray, List.map_set]

theorem byteBox_set {w : World} {t : TypeId} {g : Nat} {l : List Nat} (h : Box w t g (byteCells l)) (i c : Nat) : Box (w.setCell ⟨g, i, none⟩ (.int .u8 (c : Int))) t g (byteCells (l.set i c)) := by
  have := h.set i (.int .u8 (c : Int))
  rwa [byteCells_set] at this
theorem byteBox_at {w : World} {t : TypeId} {g : Nat} {l : List Nat} (h : Box w t g (byteCells l)) {i : Nat} (hi : i < l.length) : w.cell? ⟨g, i, none⟩ = some (.int .u8 (nth l i : Int)) := (h.cell i).trans (byteCells_at hi)

/-- the first loop: k digits are in the buffer g, m is left -/
def AsgA (w wr : World) (b g : Nat) (D : List Nat) (nd dp : Int) (neg tr : Bool) (V m k : Nat) : Prop :=
  ∃ Bf : List Nat, Bf.length = 24 ∧ Bytes Bf ∧ Box wr 86 g (byteCells Bf) ∧ lowD V = Bf.take k ++ lowD m ∧ DecBox wr b D nd dp neg tr ∧ Below g w wr
theorem asgA_step {w wr : World} {b g : Nat} {D : List Nat} {nd dp : Int} {neg tr : Bool} {V m k : Nat} (h : AsgA w wr b g D nd dp neg tr V m k) (hm : m ≠ 0) (hk : k < 24) (hbg : b ≠ g) :
    AsgA w (wr.setCell ⟨g, k, none⟩ (.int .u8 ((48 + m % 10 : Nat) : Int))) b g D nd dp neg tr V (m / 10) (k + 1) := by
  obtain ⟨Bf, h1, h2, h3, h4, h5, h6⟩ := h
  refine ⟨Bf.set k (48 + m % 10), by rw [List.length_set, h1], bytes_set h2 (by omega), byteBox_set h3 k _, ?_, h5.far (p := ⟨g, k, none⟩) hbg _, h6.setCell (by exact Nat.le_refl _) _⟩
  rw [h4, lowD_pos hm]
  have e : (Bf.set k (48 + m % 10)).take (k + 1) = Bf.take k ++ [48 + m % 10] := by
    rw [List.take_succ_eq_append_getElem (by rw [List.length_set, h1]; omega), List.take_set_of_le (Nat.le_refl _)]
    simp
  rw [e, List.append_assoc]
  rfl
theorem asgA_len {w wr : World} {b g : Nat} {D : List Nat} {nd dp : Int} {neg tr : Bool} {V m k : Nat} (h : AsgA w wr b g D nd dp neg tr V m k) (hk : k ≤ 24) : k + (lowD m).length = (lowD V).length := by
  obtain ⟨Bf, h1, h2, h3, h4, h5, h6⟩ := h
  rw [h4, List.length_append, List.length_take, h1]; omega

/-- the second loop: k digits are turned round -/
def AsgB (w wr : World) (b g : Nat) (dp : Int) (neg tr : Bool) (V k : Nat) : Prop :=
  ∃ Bf D : List Nat, Bf.length = 24 ∧ Bytes Bf ∧ Box wr 86 g (byteCells Bf) ∧ lowD V = Bf.take (lowD V).length ∧ DecBox wr b D k dp neg tr ∧ (∀ j, j < k → nth D j = nth Bf ((lowD V).length - 1 - j)) ∧ Only b w wr
theorem nth_set' (D : List Nat) (p x j : Nat) (h : p < D.length) : nth (D.set p x) j = if p = j then x else nth D j := nth_set D p x j h
theorem asgB_end {w wr : World} {b g : Nat} {dp : Int} {neg tr : Bool} {V : Nat} (h : AsgB w wr b g dp neg tr V (lowD V).length) (hN : (lowD V).length ≤ 20) : ∃ D, D.take (lowD V).length = (lowD V).reverse ∧ DecBox wr b D (lowD V).length dp neg tr ∧ Only b w wr := by
  obtain ⟨Bf, D, h1, h2, h3, h4, h5, h6, h7⟩ := h
  refine ⟨D, ?_, h5, h7⟩
  apply List.ext_getElem
  · rw [List.length_take, List.length_reverse, h5.1]; omega
  · intro j hj1 hj2
    rw [List.length_take, h5.1] at hj1
    have hj : j < (lowD V).length := by omega
    have := h6 j hj
    unfold nth at this
    rw [List.getD_eq_getElem?_getD, List.getD_eq_getElem?_getD, List.getElem?_eq_getElem (by rw [h5.1]; omega), List.getElem?_eq_getElem (by rw [h1]; omega)] at this
    simp only [Option.getD_some] at this
    rw [List.getElem_take, List.getElem_reverse, this]
    have e : (lowD V)[(lowD V).length - 1 - j]'(by omega) = (Bf.take (lowD V).length)[(lowD V).length - 1 - j]'(by rw [List.length_take, h1]; omega) := by
      congr 1
    rw [e, List.getElem_take]

theorem asgB_start {w wr : World} {b g : Nat} {D : List Nat} {nd dp : Int} {neg tr : Bool} {V k : Nat} (h : AsgA w wr b g D nd dp neg tr V 0 k) (hk : k = (lowD V).length) (hg : w.heap.size ≤ g) (hbg : b ≠ g) :
    AsgB w (wr.setCell ⟨b, 800, none⟩ (.int .i64 0)) b g dp neg tr V 0 := by
  obtain ⟨Bf, h1, h2, h3, h4, h5, h6⟩ := h
  refine ⟨Bf, D, h1, h2, h3.far (p := ⟨b, 800, none⟩) (fun e => hbg e.symm) _, ?_, h5.setNd 0, fun j hj => absurd hj (by omega), ?_⟩
  · rw [lowD_zero, List.append_nil, hk] at h4; exact h4
  · exact (Only.of_below (h6.mono hg)).setCell _ _
theorem asgB_step {w wr : World} {b g : Nat} {dp : Int} {neg tr : Bool} {V k : Nat} (h : AsgB w wr b g dp neg tr V k) (hk : k < (lowD V).length) (hN : (lowD V).length ≤ 20) (hbg : b ≠ g) :
    ∃ (c u : Nat), c < 256 ∧ wr.cell? ⟨b, 800, none⟩ = some (.int .i64 k) ∧ wr.frozen? ⟨b, 800, none⟩ = false ∧ wr.cell? ⟨g, (lowD V).length - 1 - k, none⟩ = some (.int .u8 (c : Int)) ∧ wr.cell? ⟨b, k, none⟩ = some (.int .u8 (u : Int)) ∧ wr.frozen? ⟨b, k, none⟩ = false ∧
      AsgB w ((wr.setCell ⟨b, k, none⟩ (.int .u8 (c : Int))).setCell ⟨b, 800, none⟩ (.int .i64 ((k : Int) + 1))) b g dp neg tr V (k + 1) := by
  obtain ⟨Bf, D, h1, h2, h3, h4, h5, h6, h7⟩ := h
  have hc := nth_byte h2 ((lowD V).length - 1 - k)
  refine ⟨nth Bf ((lowD V).length - 1 - k), nth D k, hc, h5.nd_, h5.free 800, byteBox_at h3 (by omega), h5.at_ (by omega), h5.free k, ?_⟩
  have hs := (h5.set (i := k) (by omega) hc).setNd ((k : Int) + 1)
  refine ⟨Bf, D.set k (nth Bf ((lowD V).length - 1 - k)), h1, h2, (h3.far (p := ⟨b, k, none⟩) (fun e => hbg e.symm) _).far (p := ⟨b, 800, none⟩) (fun e => hbg e.symm) _, h4, ?_, ?_, (h7.setCell _ _).setCell _ _⟩
  · rw [show ((k + 1 : Nat) : Int) = (k : Int) + 1 from by omega]; exact hs
  · intro j hj
    rw [nth_set _ _ _ _ (by rw [h5.1]; omega)]
    by_cases e : k = j
    · rw [if_pos e, e]
    · rw [if_neg e]; exact h6 j (by omega)
theorem asgB_drew {w wr : World} {b g : Nat} {dp : Int} {neg tr : Bool} {V k : Nat} (h : AsgB w wr b g dp neg tr V k) : AsgB w wr.drew b g dp neg tr V k := by
  obtain ⟨Bf, D, h1, h2, h3, h4, h5, h6, h7⟩ := h
  exact ⟨Bf, D, h1, h2, h3, h4, h5, h6, h7.drew⟩
theorem asgB_drewN {w wr : World} {b g : Nat} {dp : Int} {neg tr : Bool} {V k : Nat} (h : AsgB w wr b g dp neg tr V k) (n : Nat) : AsgB w (wr.drewN n) b g dp neg tr V k := by
  obtain ⟨Bf, D, h1, h2, h3, h4, h5, h6, h7⟩ := h
  exact ⟨Bf, D, h1, h2, h3, h4, h5, h6, h7.drewN n⟩

/-- Assign leaves the number's digits, without zeros behind -/
def AssignPost (b V : Nat) (neg tr : Bool) (w : World) (e : Ending) (w' : World) : Prop :=
  ∃ D, D.take (lowD V).length = (lowD V).reverse ∧ Makes b D (cut0 D (lowD V).length) (dpz (cut0 D (lowD V).length) (lowD V).length) neg tr w e w'

set_option maxHeartbeats 2000000 in
theorem assign_any (b : Nat) (D : List Nat) (nd dp : Int) (neg tr : Bool) (V : Nat) (w : World) (h : DecBox w b D nd dp neg tr) (hV : V < 18446744073709551616) :
    Calls Try.prog 63 #[.pointer (some ⟨b, 0, none⟩), .int .u64 V] w (AssignPost b V neg tr w) := by
  have H := Lib.hid h
  have hlt := h.lt
  have hN : (lowD V).length ≤ 20 := lowD_len (by omega)
  clear h
  go_enter Try.func63, Try.ntmps63
  go_wp2_with fail
  have HA : Hid (AsgA w (w.alloc (.cells (byteCells (List.replicate 24 0)) 86)) b w.heap.size D nd dp neg tr V V 0) :=
    ⟨List.replicate 24 0, by simp, fun x hx => by rw [List.mem_replicate] at hx; omega, Box.new _ _ _, by simp, H.out.alloc _, below_new w _⟩
  have EQ : byteCells (List.replicate 24 0) = #[.int .u8 0, .int .u8 0, .int .u8 0, .int .u8 0, .int .u8 0, .int .u8 0, .int .u8 0, .int .u8 0, .int .u8 0, .int .u8 0, .int .u8 0, .int .u8 0, .int .u8 0, .int .u8 0, .int .u8 0, .int .u8 0, .int .u8 0, .int .u8 0, .int .u8 0, .int .u8 0, .int .u8 0, .int .u8 0, .int .u8 0, .int .u8 0] := rfl
  rw [EQ] at HA
  clear EQ
  go_loopw [1, 5] (fun v i wr => ∃ m k : Nat, m < 18446744073709551616 ∧ k ≤ 20 ∧ v = .int .u64 m ∧ i = .int .i64 k ∧ Hid (AsgA w wr b w.heap.size D nd dp neg tr V m k)) (fun v _ _ => (intOf v).toNat)
  case atStart => exact ⟨V, 0, hV, by omega, rfl, rfl, HA.out⟩
  case round =>
    obtain ⟨m, k, hm, hk, rfl, rfl, hA⟩ := hrel
    by_cases h0 : m = 0
    · subst h0
      have hl := asgA_len hA.out (by omega)
      rw [lowD_zero, List.length_nil, Nat.add_zero] at hl
      have HL := Lib.hid hl
      clear hl
      obtain ⟨_, _, _, _, _, g5, _⟩ := hA.out
      have c0 := g5.nd_
      have f0 := g5.free 800
      have R := Lib.hid (asgB_start hA.out HL.out (Nat.le_refl _) (by omega))
      clear g5
      go_wp2_with fail
      generalize wr.setCell ⟨b, 800, none⟩ (.int .i64 0) = wz at *
      go_loopw [5] (fun i wr => ∃ j : Nat, j ≤ k ∧ i = .int .i64 ((k : Int) - 1 - (j : Int)) ∧ Hid (AsgB w wr b w.heap.size dp neg tr V j)) (fun i _ => (intOf i + 1).toNat)
      case atStart => exact ⟨0, by omega, by go_num, R.out⟩
      case round =>
        obtain ⟨j, hj, rfl, hB⟩ := hrel
        by_cases hjk : j < k
        · obtain ⟨c, u, hc, d0, e0, d1, d2, e2, hnext⟩ := asgB_step hB.out (by have := HL.out; omega) hN (by omega)
          rw [← HL.out] at d1
          have HX := Lib.hid hnext
          clear hnext
          have hx1 : ((k : Int) - 1 - (j : Int)).toNat = k - 1 - j := by omega
          go_wp2_with fail
          go_region
          go_wp2_with fail
          go_roundw
          case rel => exact ⟨j + 1, by omega, by go_num, asgB_drew HX.out⟩
          case measure => simp [intOf]; omega
        · obtain rfl : j = k := by omega
          have hB2 := hB.out
          rw [HL.out] at hB2
          obtain ⟨D2, t1, t2, t3⟩ := asgB_end hB2 hN
          rw [← HL.out] at t1 t2
          have T1 := Lib.hid t1
          have T3 := Lib.hid t3
          have T2 := Lib.hid (t2.setDp (j : Int))
          have c1 := t2.nd_
          have c2 := t2.dp_
          have f2 := t2.free 801
          clear t1 t2 t3 hB2
          go_wp2_with fail
          refine (trimD_any b D2 j (j : Int) neg tr _ T2.out (by omega)).mono ?_
          rintro e w9 ⟨rfl, hm1, hm2⟩
          have M1 := Lib.hid hm1
          have M2 := Lib.hid ((T3.out.setCell 801 (.int .i64 (j : Int))).trans hm2)
          clear hm1 hm2
          go_wp2_with fail
          go_end0
          refine ⟨D2, ?_, rfl, ?_, M2.out⟩
          · rw [← HL.out]; exact T1.out
          · rw [← HL.out]; exact M1.out
    · have hmp : 0 < m := by omega
      have hl := asgA_len hA.out (by omega)
      rw [lowD_pos h0, List.length_cons] at hl
      have hk20 : k < 20 := by omega
      clear hl
      have R := Lib.hid (asgA_step hA.out h0 (by omega) (by omega))
      obtain ⟨Bf, g1, _, g3, _⟩ := hA.out
      have c0 := byteBox_at g3 (i := k) (by omega)
      have f0 := g3.frozen k
      clear g3
      go_wp2_with fail
      go_roundw
      case rel => exact ⟨m / 10, k + 1, by omega, by omega, by go_num, by go_num, by
          have e : ((48 + m % 10 : Nat) : Int) = (m : Int) - 10 * ((m : Int) / 10) + 48 := by omega
          have := R.out
          rw [e] at this
          exact this⟩
      case measure => simp [intOf]; omega
end Go.Proofs.Ytekicbnfabpaeaa
