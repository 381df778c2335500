/- prefixIsLessThan of the package, by a contract. -/
import Derived.Test.YtfndpecffhempaaDoorShT
import Derived.Test.YtfndpecffhempaaDoorFrom
import Derived.Test.YtfndpecffhempaaDoorShA
namespace Go.Proofs.YtfndpecffhempaaDoor
open Go.RowKit

theorem slice_dec0 (b n : Nat) (hn : n ≤ 800) (W : World) : (Instr.sliceAt 88 (.pointer (some ⟨b, 0, none⟩)) (some (.int .i64 0)) (some (.int .i64 (n : Int))) none).run Tryd.prog W = .ok (.slice (some ⟨b, 0, none⟩) n 800) W := by
  rw [run_sliceAt_array_lh W 88 ⟨b, 0, none⟩ under_array .i64 .i64 0 n (by omega) (by omega) (by rw [len_array]; omega), elem_array, size_u8, len_array]
  simp [slicedAt, Result.andThen, Addr.add]

set_option maxHeartbeats 1000000 in
set_option maxRecDepth 100000 in
theorem prefix_any (b : Nat) (D l C : List Nat) (nd dp : Int) (neg tr : Bool) (w : World) (h : DecBox w b D nd dp neg tr) (ht : D.take l.length = l) (hl : l.length ≤ 800) (hd : Digs l) (hC : Digs C) (hCl : C.length ≤ 100) (hz : nth C (C.length - 1) ≠ 48) :
    Calls Tryd.prog 64 #[.slice (some ⟨b, 0, none⟩) l.length 800, .string (bs C)] w fun e w' => e = .returned (.bool (ltP l C)) ∧ ∃ q, w' = w.drewN q := by
  have H := Lib.hid h
  have HT := Lib.hid ht
  have HDg := Lib.hid hd
  have HC := Lib.hid hC
  have HZ := Lib.hid hz
  have hsz := bs_size C
  have hget := get_bs C (digs_bytes hC)
  clear h ht hd hC hz
  go_enter Tryd.func64, Tryd.ntmps64
  go_wp2_with fail
  go_loopw [5] (fun i wr => ∃ j : Nat, j ≤ C.length ∧ j ≤ l.length ∧ i = .int .i64 j ∧ Hid (∃ q, wr = w.drewN q) ∧ Hid (l.take j = C.take j)) (fun i _ => C.length - (intOf i).toNat)
  case atStart => exact ⟨0, by omega, by omega, rfl, ⟨0, rfl⟩, rfl⟩
  case round =>
    obtain ⟨j, hj1, hj2, rfl, hq, he⟩ := hrel
    by_cases h1 : j < C.length
    · by_cases h2 : j < l.length
      · have g0 : wr.cell? ⟨b, j, none⟩ = some (.int .u8 (nth l j : Int)) := by
          obtain ⟨q, rfl⟩ := hq.out
          have := (H.out.drewN q).at_ (i := j) (by omega)
          rw [this]
          have e : nth D j = nth l j := by rw [← nth_take (l := D) h2, HT.out]
          rw [e]
        have b1 := digs_nth HDg.out h2
        have b2 := digs_nth HC.out h1
        have g1 : (0 : Int) ≤ (j : Int) := by omega
        rcases Nat.lt_trichotomy (nth l j) (nth C j) with hc | hc | hc
        · have E := Lib.hid (ltP_less HDg.out HC.out h2 h1 he.out hc)
          have t1 : (((nth l j : Nat) : Int) != ((nth C j : Nat) : Int)) = true := by simp; omega
          have t2 : decide (((nth l j : Nat) : Int) < ((nth C j : Nat) : Int)) = true := by simp; omega
          have HH := Lib.hid hc
          clear hc
          go_wp2_with fail
          go_quiet (fail)
          go_wp2_with fail
          go_quiet (fail)
          go_wp2_with fail
          go_ret
          exact ⟨ret_bool (a := decide (nth l j < nth C j)) (by rw [E.out]; exact decide_eq_true HH.out), by obtain ⟨q, rfl⟩ := hq.out; exact ⟨_, by rw [World.drewN_drewN, World.drewN_drewN]⟩⟩
        · have E : Hid (l.take (j + 1) = C.take (j + 1)) := by show _ = _; rw [take_snoc_nth l h2, take_snoc_nth C h1, he.out, hc]
          have t1 : (((nth l j : Nat) : Int) != ((nth C j : Nat) : Int)) = false := by simp; omega
          clear hc
          go_wp2_with fail
          go_quiet (fail)
          go_wp2_with fail
          go_roundw
          case rel => exact ⟨j + 1, by omega, by omega, by go_num, by obtain ⟨q, rfl⟩ := hq.out; exact ⟨_, World.drewN_drewN _ _ _⟩, E⟩
          case measure => simp [intOf]; omega
        · have E := Lib.hid (ltP_more HDg.out HC.out h2 h1 he.out hc)
          have t1 : (((nth l j : Nat) : Int) != ((nth C j : Nat) : Int)) = true := by simp; omega
          have t2 : decide (((nth l j : Nat) : Int) < ((nth C j : Nat) : Int)) = false := by simp; omega
          have HH := Lib.hid hc
          clear hc
          go_wp2_with fail
          go_quiet (fail)
          go_wp2_with fail
          go_quiet (fail)
          go_wp2_with fail
          go_ret
          exact ⟨ret_bool (a := decide (nth l j < nth C j)) (by rw [E.out]; exact decide_eq_false (Nat.not_lt_of_lt HH.out)), by obtain ⟨q, rfl⟩ := hq.out; exact ⟨_, by rw [World.drewN_drewN, World.drewN_drewN]⟩⟩
      · obtain rfl : j = l.length := by omega
        have E := Lib.hid (ltP_short HC.out h1 (by rw [← he.out, List.take_length]) HZ.out)
        go_wp2_with fail
        go_ret
        exact ⟨ret_bool E.out.symm, hq.out⟩
    · obtain rfl : j = C.length := by omega
      have E := Lib.hid (ltP_long hj2 (by rw [he.out, List.take_length]))
      go_wp2_with fail
      go_ret
      exact ⟨ret_bool E.out.symm, hq.out⟩
end Go.Proofs.YtfndpecffhempaaDoor
