/- Zeros and FormatBase10, by contracts, and the walk of FnExactBase10: the law returns true. -/
import Derived.Test.YtekicbnfabpaeaaFmt
import Derived.OpenShut
namespace Go.Proofs.Ytekicbnfabpaeaa
open Go.RowKit

theorem byteCells_zero (n : Nat) : (madeCells #[.int .u8 0] n) = byteCells (List.replicate n 0) := by
  apply Array.toList_inj.1
  rw [toList_madeCells_one]
  simp [byteCells]
theorem run_make_bytes (n : Nat) (hn : n ≤ 1000000) (W : World) :
    (Instr.makeSlice 46 (.int .i64 (n : Int)) (.int .i64 (n : Int))).run Try.prog W = .ok (.slice (some ⟨W.heap.size, 0, none⟩) n n) (W.alloc (.cells (byteCells (List.replicate n 0)) 5)) := by
  obtain ⟨i, hi, hz, h1, h2⟩ := info_parts info_u8
  have hr := run_make (P := Try.prog) W 46 5 i (.int .u8 0) Try.underlying46 hi hz .i64 .i64 n n (by omega) (by omega) (by rw [h2]; omega) (by omega)
  simp only [Int.toNat_natCast] at hr
  rw [hr, h1, Nat.mul_one, ← byteCells_zero]
  rfl
theorem bytes_text {w : World} {g n : Nat} {L : List Nat} (h : Box w 5 g (byteCells L)) (hl : L.length = n) :
    (convert 46 9 (.slice (some ⟨g, 0, none⟩) n n)).run Try.prog w = .ok (.string (bs L)) w := by
  have := run_convert_bytes_arg (P := Try.prog) w 46 5 Try.underlying46 Try.underlying5 g 0 n n (L.map fun (x : Nat) => (x : Int)) (by rw [List.length_map, hl])
    (by intro i hi
        rw [Nat.zero_add, byteBox_at h (by omega)]
        have hL : i < L.length := by omega
        congr 2
        simp [nth, List.getD_eq_getElem?_getD, hL]) 9 Try.underlying9
  rw [this, bs_nums]

/-- k zeros, then bytes 0 -/
def zl (n k : Nat) : List Nat := List.replicate k 48 ++ List.replicate (n - k) 0
theorem zl_len {n k : Nat} (h : k ≤ n) : (zl n k).length = n := by simp [zl]; omega
theorem zl_set {n k : Nat} (h : k < n) : (zl n k).set k 48 = zl n (k + 1) := by
  unfold zl
  rw [List.set_append_right _ _ (by simp), List.length_replicate, Nat.sub_self, show n - k = (n - (k + 1)) + 1 from by omega, List.replicate_succ, List.set_cons_zero, List.replicate_succ', List.append_assoc]
  rfl
theorem zl_end (n : Nat) : zl n n = List.replicate n 48 := by simp [zl]

set_option maxHeartbeats 400000 in
theorem zeros_any (a : Int) (w : World) (h1 : a ≤ 100000) : Calls Try.prog 25 #[.int .i64 a] w (GivesText (List.replicate a.toNat 48) w) := by
  obtain ⟨n, hn, hmax, hN⟩ : ∃ n : Nat, n = a.toNat ∧ ((0 ≤ a ∧ a = (n : Int)) ∨ (a < 0 ∧ n = 0)) ∧ n ≤ 100000 := by
    by_cases h : 0 ≤ a
    · exact ⟨a.toNat, rfl, .inl ⟨h, by omega⟩, by omega⟩
    · exact ⟨0, by omega, .inr ⟨by omega, rfl⟩, by omega⟩
  rw [← hn]
  clear hn
  have B0 := Lib.hid (Box.new w 5 (byteCells (List.replicate n 0)))
  have L0 := Lib.hid (below_new w (.cells (byteCells (List.replicate n 0)) 5))
  have core : ∀ a : Int, ((0 ≤ a ∧ a = (n : Int)) ∨ (a < 0 ∧ n = 0)) → Calls Try.prog 25 #[.int .i64 a] w (GivesText (List.replicate n 48) w) := by
    clear hmax h1 a
    rintro a (⟨h0, rfl⟩ | ⟨h0, rfl⟩)
    · have hmk := run_make_bytes n (by omega)
      go_enter Try.func25, Try.ntmps25
      go_wp2_with fail
      generalize w.alloc (.cells (byteCells (List.replicate n 0)) 5) = W at *
      clear hmk
      go_loopw [10] (fun i wr => ∃ k : Nat, k ≤ n ∧ i = .int .i64 k ∧ Hid (Box wr 5 w.heap.size (byteCells (zl n k))) ∧ Hid (Below w.heap.size w wr)) (fun i _ => n - (intOf i).toNat)
      case atStart => exact ⟨0, by omega, rfl, B0.out, L0.out⟩
      case round =>
        obtain ⟨k, hk, rfl, hb, hl⟩ := hrel
        by_cases hlt : k < n
        · have c0 := byteBox_at hb.out (i := k) (by rw [zl_len hk]; omega)
          have f0 := hb.out.frozen k
          go_wp2_with fail
          go_roundw
          case rel => exact ⟨k + 1, by omega, by go_num, by
              have := byteBox_set hb.out k 48
              rw [zl_set hlt] at this
              exact this, hl.out.setCell (by exact Nat.le_refl _) _⟩
          case measure => simp [intOf]; omega
        · obtain rfl : k = n := by omega
          have hcv := bytes_text hb.out (zl_len (Nat.le_refl k))
          rw [zl_end] at hcv
          go_wp2_with fail
          go_ret
          exact ⟨rfl, hl.out⟩
    · have hmk : ∀ W : World, (Instr.makeSlice 46 (.int .i64 0) (.int .i64 0)).run Try.prog W = .ok (.slice (some ⟨W.heap.size, 0, none⟩) 0 0) (W.alloc (.cells #[] 5)) := run_make_bytes 0 (by omega)
      have hcv : (convert 46 9 (.slice (some ⟨w.heap.size, 0, none⟩) 0 0)).run Try.prog (w.alloc (.cells #[] 5)) = .ok (.string (bs [])) (w.alloc (.cells #[] 5)) := bytes_text (n := 0) (L := []) (Box.new w _ _) rfl
      go_enter Try.func25, Try.ntmps25
      go_wp2_with fail
      refine wp_loop_rounds 1 ?_
      rw [rounds_succ]
      go_wp2_with fail
      go_ret
      exact ⟨rfl, L0.out⟩
  exact core a hmax

set_option maxHeartbeats 1000000 in
theorem formatOut_any (n u : Nat) (w : World) (hn : n ≤ 60) (hu : u < 10 ^ n) (hu64 : u < 18446744073709551616) :
    Calls Try.prog 24 #[.int .i64 n, .int .u64 u] w (GivesText (fmtL n u) w) := by
  have hmk := run_make_bytes n (by omega)
  go_enter Try.func24, Try.ntmps24
  go_wp2_with (go_at_call 45; go_in)
  have B0 := Lib.hid (Box.new w 5 (byteCells (List.replicate n 0)))
  have L0 := Lib.hid (below_new w (.cells (byteCells (List.replicate n 0)) 5))
  generalize w.alloc (.cells (byteCells (List.replicate n 0)) 5) = W at *
  refine (formatBase10_any w.heap.size n u _ _ (by simp) (fun x hx => by rw [List.mem_replicate] at hx; omega) B0.out hn hu hu64).mono ?_
  rintro e w1 ⟨rfl, hb, ho⟩
  have hcv := bytes_text hb (fmtL_len n u)
  have L1 := Lib.hid (L0.out.trans (ho.below (Nat.le_refl _) L0.out.size))
  clear hb ho hmk
  go_wp2_with fail
  go_ret
  exact ⟨rfl, L1.out⟩

theorem ret_true {b : Bool} (h : b = true) : Ending.returned (.bool b) = .returned (.bool true) := by rw [h]
theorem decL_lt {n u : Nat} (h : (decL u).length ≤ n) : u < 10 ^ n := by
  rcases Nat.lt_or_ge u (10 ^ n) with h' | h'
  · exact h'
  · have := decL_len_ge h'; omega
set_option maxHeartbeats 1000000 in
theorem walk_FnExactBase10 (a0 a1 : Int) (w0 : (Lit.int .u8 a0).wf = true) (w1 : (Lit.int .u64 a1).wf = true) (w : World) :
    Calls Try.prog 9 #[.int .u8 a0, .int .u64 a1] w fun e w' => e = .returned (.bool true) ∧ Below w.heap.size w w' := by
  have b0 := bounds_u8 w0
  have b1 := bounds_u64 w1
  obtain ⟨k, rfl⟩ := Int.eq_ofNat_of_zero_le b0.1
  obtain ⟨u, rfl⟩ := Int.eq_ofNat_of_zero_le b1.1
  clear w0 w1
  have hn : k % 61 ≤ 60 := by omega
  have en : (k : Int) % 61 = ((k % 61 : Nat) : Int) := by omega
  have EN := Lib.hid en
  clear en
  have hdl : (decL u).length ≤ 20 := decL_len_le (k := 19) (by omega)
  have hsz := bs_size (decL u)
  go_enter Try.func9, Try.ntmps9
  go_wp2_with fail
  rw [EN.out]
  generalize k % 61 = n at *
  refine (dec_out _ _ (by omega) (by omega)).mono ?_
  rintro e' w2 ⟨rfl, hb2⟩
  rw [Int.toNat_natCast]
  have HB2 := Lib.hid hb2
  clear hb2 EN
  by_cases hlt : n < (decL u).length
  · go_wp2_with fail
    go_ret
    exact ⟨rfl, HB2.out⟩
  · have HF := Lib.hid (fmtL_dec (n := n) (u := u) (by omega))
    have HU := Lib.hid (decL_lt (n := n) (u := u) (by omega))
    go_wp2_with fail
    refine (formatOut_any n u _ hn HU.out (by omega)).mono ?_
    rintro e' w3 ⟨rfl, hb3⟩
    have HB3 := Lib.hid (HB2.out.trans (hb3.mono HB2.out.size))
    clear hb3
    go_wp2_with fail
    refine (zeros_any _ _ (by omega)).mono ?_
    rintro e' w4 ⟨rfl, hb4⟩
    have HB4 := Lib.hid (HB3.out.trans (hb4.mono HB3.out.size))
    clear hb4
    rw [show ((n : Int) - ((decL u).length : Int)).toNat = n - (decL u).length from by omega]
    have hs2 : (bs (List.replicate (n - (decL u).length) 48)).size = n - (decL u).length := by rw [bs_size]; simp
    have ht : ((bs (fmtL n u)).toList == (bs (List.replicate (n - (decL u).length) 48) ++ bs (decL u)).toList) = true := by rw [bs_append, HF.out]; simp
    go_wp2_with fail
    go_ret
    exact ⟨ret_true (by first | rfl | exact ht), HB4.out⟩
end Go.Proofs.Ytekicbnfabpaeaa
