/- RoundedInteger of the package's decimals, by contracts. -/
import Derived.Test.YtfndpecffhempaaDoorShA
namespace Go.Proofs.YtfndpecffhempaaDoor
open Go.RowKit

set_option maxHeartbeats 1000000 in
set_option maxRecDepth 100000 in
theorem rint_neg (b : Nat) (D : List Nat) (n : Nat) (dp : Int) (neg tr : Bool) (w : World) (h : DecBox w b D n dp neg tr) (hp : dp < 0) :
    Calls Tryd.prog 61 #[.pointer (some ⟨b, 0, none⟩)] w fun e w' => e = .returned (.int .u64 0) ∧ w = w' := by
  have c1 := h.dp_
  clear h
  have hp1 : ¬ (20 : Int) < dp := by omega
  go_enter Tryd.func61, Tryd.ntmps61
  go_wp2_with fail
  refine wp_loop_rounds 1 ?_
  rw [rounds_succ]
  go_wp2_with fail
  refine wp_loop_rounds 1 ?_
  rw [rounds_succ]
  go_wp2_with fail
  refine (shU_neg b dp _ hp).mono ?_
  rintro e w1 ⟨rfl, rfl⟩
  go_wp2_with fail
  go_ret
  exact ⟨rfl, rfl⟩

theorem valD_le {l : List Nat} (h : Digs l) {k : Nat} (hk : l.length ≤ k) : valD l < 10 ^ k := Nat.lt_of_lt_of_le (valD_lt h) (Nat.pow_le_pow_right (by omega) hk)
theorem ten_le {k m : Nat} (h : k ≤ m) : 10 ^ k ≤ 10 ^ m := Nat.pow_le_pow_right (by omega) h

theorem ten19 : (10 : Nat) ^ 19 = 10000000000000000000 := by decide
/-- the digits in front of the point, as a number -/
def intD (D : List Nat) (n d : Nat) : Nat := valD (D.take (min d n)) * 10 ^ (d - n)
def rI (D : List Nat) (n d : Nat) (tr : Bool) : Nat := intD D n d + if shU D n d tr then 1 else 0
theorem intD_lt {D : List Nat} {n d : Nat} (h : Digs (D.take n)) : intD D n d < 10 ^ d := by
  unfold intD
  have h1 : Digs (D.take (min d n)) := by
    have : D.take (min d n) = (D.take n).take (min d n) := by rw [List.take_take]; congr 1; omega
    rw [this]; exact digs_take h _
  have h2 := valD_le h1 (k := min d n) (by simp; omega)
  have h3 : 0 < 10 ^ (d - n) := Nat.pow_pos (by omega)
  have h4 := Nat.mul_lt_mul_of_pos_right h2 h3
  rw [← Nat.pow_add] at h4
  exact Nat.lt_of_lt_of_le h4 (ten_le (by omega))

set_option maxHeartbeats 2000000 in
set_option maxRecDepth 100000 in
theorem rint_any (b : Nat) (D : List Nat) (n d : Nat) (neg tr : Bool) (w : World) (h : DecBox w b D n d neg tr) (hn : n ≤ 800) (hd : Digs (D.take n)) (hp : d ≤ 19) :
    Calls Tryd.prog 61 #[.pointer (some ⟨b, 0, none⟩)] w fun e w' => e = .returned (.int .u64 (rI D n d tr : Int)) ∧ w = w' := by
  have c0 := h.nd_
  have c1 := h.dp_
  have H := Lib.hid h
  have HDg := Lib.hid hd
  have HDL := Lib.hid h.1
  have hds : ∀ i, i < n → 48 ≤ nth D i ∧ nth D i ≤ 57 := fun i hi => by
    have := digs_nth hd (k := i) (by have := h.1; simp; omega)
    rwa [nth_take hi] at this
  have HDS := Lib.hid hds
  have HI := Lib.hid (intD_lt (d := d) hd)
  clear h hd hds
  go_enter Tryd.func61, Tryd.ntmps61
  go_wp2_with fail
  go_loop [3, 4] (fun i v => ∃ k m : Nat, k ≤ d ∧ k ≤ n ∧ i = .int .i64 k ∧ v = .int .u64 m ∧ Hid (m = valD (D.take k))) (fun i _ => d - (intOf i).toNat)
  case atStart => exact ⟨0, 0, by omega, by omega, rfl, rfl, rfl⟩
  case round =>
    obtain ⟨k, m, hk1, hk2, rfl, rfl, hm⟩ := hrel
    by_cases hgo : k < d ∧ k < n
    · obtain ⟨hg1, hg2⟩ := hgo
      have g0 := H.out.at_ (i := k) (by omega)
      obtain ⟨e1, e2⟩ := HDS.out k hg2
      have hmb : m < 1000000000000000000 := by
        have : Digs (D.take k) := by
          have : D.take k = (D.take n).take k := by rw [List.take_take, Nat.min_eq_left (by omega)]
          rw [this]; exact digs_take HDg.out _
        have h2 := valD_le this (k := 18) (by simp; omega)
        rw [← hm.out] at h2
        have : (10 : Nat) ^ 18 = 1000000000000000000 := by decide
        omega
      have HN : Hid (m * 10 + (nth D k - 48) = valD (D.take (k + 1))) := by
        show _ = _
        rw [take_snoc_nth D (by rw [HDL.out]; omega), valD_snoc, ← hm.out]; omega
      go_wp2_with fail
      go_round
      case rel => exact ⟨k + 1, m * 10 + (nth D k - 48), by omega, by omega, by go_num, by congr 1; omega, HN⟩
      case measure => simp [intOf]; omega
    · obtain ⟨m2, hm2⟩ : ∃ m2, m2 = intD D n d := ⟨_, rfl⟩
      have hm9 : m2 < 10000000000000000000 := by
        have := Nat.lt_of_lt_of_le HI.out (ten_le hp)
        rw [ten19] at this
        omega
      have HM : Hid (m * 10 ^ (d - k) = m2) := by
        show _ = _
        rw [hm2, hm.out]
        unfold intD
        rcases (show k = d ∨ (k = n ∧ k < d) by omega) with e | ⟨e, e'⟩
        · rw [e, Nat.min_eq_left (by omega)]
          congr 2
          omega
        · rw [e, Nat.min_eq_right (by omega)]
      have HM2 := Lib.hid hm2
      clear hm2
      have hx : d ≤ k ∨ (k < d ∧ n ≤ k) := by omega
      clear hgo hm
      rcases hx with hx | ⟨hx, hx2⟩
      all_goals
        go_wp2_with fail
        go_loop [3, 4] (fun i v => ∃ j m' : Nat, j ≤ d ∧ i = .int .i64 j ∧ v = .int .u64 m' ∧ Hid (m' * 10 ^ (d - j) = m2)) (fun i _ => d - (intOf i).toNat)
        case atStart => exact ⟨k, m, by omega, rfl, rfl, HM⟩
        case round =>
          obtain ⟨j, m', hj, rfl, rfl, hm'⟩ := hrel
          by_cases hg : j < d
          · have hb : m' < 1000000000000000000 := by
              have h1 : 10 ^ 1 ≤ 10 ^ (d - j) := ten_le (by omega)
              have h2 : m' * 10 ^ 1 ≤ m' * 10 ^ (d - j) := Nat.mul_le_mul_left _ h1
              rw [hm'.out] at h2
              omega
            have HN : Hid (m' * 10 * 10 ^ (d - (j + 1)) = m2) := by
              show _ = _
              rw [Nat.mul_assoc, ← Nat.pow_succ', show (d - (j + 1)).succ = d - j by omega]; exact hm'.out
            go_wp2_with fail
            go_round
            case rel => exact ⟨j + 1, m' * 10, by omega, by go_num, by go_num, HN⟩
            case measure => simp [intOf]; omega
          · have hj2 : d ≤ j := by omega
            have hm3 : m' = m2 := by
              have := hm'.out
              rw [show d - j = 0 by omega, Nat.pow_zero, Nat.mul_one] at this
              exact this
            obtain rfl := hm3
            clear hm' hg
            go_wp2_with fail
            refine (shU_any b _ _ d _ _ _ _ H.out hn HDS.out).mono ?_
            rintro e w1 ⟨rfl, rfl⟩
            rcases Bool.eq_false_or_eq_true (shU D n d tr) with hs | hs
            · have E : Hid (rI D n d tr = m' + 1) := by show _ = _; unfold rI; rw [hs, ← HM2.out]; rfl
              rw [hs]
              clear hs
              go_wp2_with fail
              go_ret
              exact ⟨ret_int (by rw [E.out]; simp), rfl⟩
            · have E : Hid (rI D n d tr = m') := by show _ = _; unfold rI; rw [hs, ← HM2.out]; rfl
              rw [hs]
              clear hs
              go_wp2_with fail
              go_ret
              exact ⟨ret_int (by rw [E.out]), rfl⟩
end Go.Proofs.YtfndpecffhempaaDoor
