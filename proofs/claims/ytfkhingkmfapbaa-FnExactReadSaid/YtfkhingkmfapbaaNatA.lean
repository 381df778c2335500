/- The functions trim, NatOf, one, digit, NatCmp of the reference, by contracts: what each returns, and that nothing that was there turns. -/
import Derived.Test.YtfkhingkmfapbaaRow
namespace Go.Proofs.Ytfkhingkmfapbaa
open Go.RowKit
theorem ret_int {k : IntKind} {a b : Int} (h : a = b) : Ending.returned (.int k a) = .returned (.int k b) := by rw [h]

/-- trim hands back the number of the digits, in the same memory -/
def TrimPost (w : World) (ds : List Nat) (e : Ending) (w' : World) : Prop := w = w' ∧ ∃ v', e = .returned v' ∧ IsNat w v' (Num.val ds)
theorem trim_end {w : World} {ds : List Nat} {g cap k : Nat} (hlt : ∀ d ∈ ds, d < 4294967296) (h : Row w (.slice (some ⟨g, 0, none⟩) ds.length cap) ds) (hk : k ≤ ds.length)
    (hz : ∀ i, k ≤ i → i < ds.length → nth ds i = 0) (hn : k = 0 ∨ nth ds (k - 1) ≠ 0) : IsNat w (.slice (some ⟨g, 0, none⟩) k cap) (Num.val ds) := by
  have := h.take hk
  unfold IsNat
  rw [Num.dg_take hlt hk hz hn] at this
  exact this

set_option maxHeartbeats 400000 in
theorem trim_any (v : Value) (ds : List Nat) (w : World) (h : Row w v ds) (hlt : ∀ d ∈ ds, d < 4294967296) : Calls Try.prog 50 #[v] w (TrimPost w ds) := by
  rcases h.shape with ⟨rfl, rfl⟩ | ⟨g, cap, rfl, hg, hcap, hmax, hc⟩
  · have H := Lib.hid h
    clear h hlt
    go_enter Try.func50, Try.ntmps50
    go_wp2_with fail
    refine wp_loop_rounds 1 ?_
    rw [rounds_succ]
    go_wp2_with fail
    go_ret
    refine ⟨rfl, _, rfl, ?_⟩
    show IsNat w _ 0
    unfold IsNat
    rw [Num.dg_zero]
    exact H.out
  · have H := Lib.hid h
    have HL := Lib.hid hlt
    have HC := Lib.hid hc
    clear h hlt hc
    go_enter Try.func50, Try.ntmps50
    go_wp2_with fail
    go_loop [0] (fun t => ∃ k : Nat, k ≤ ds.length ∧ t = .slice (some ⟨g, 0, none⟩) k cap ∧ Hid (∀ i, k ≤ i → i < ds.length → nth ds i = 0)) (fun t => lenOf t)
    case atStart => exact ⟨ds.length, Nat.le_refl _, rfl, fun i h1 h2 => absurd h2 (by omega)⟩
    case round =>
      obtain ⟨k, hk, rfl, hz⟩ := hrel
      by_cases h0 : k = 0
      · subst h0
        go_wp2_with fail
        go_ret
        exact ⟨rfl, _, rfl, trim_end HL.out H.out (by omega) hz.out (.inl rfl)⟩
      · have hkp : 0 < k := by omega
        have hcell : w.cell? ⟨g, k - 1, none⟩ = some (.int .u32 (nth ds (k - 1) : Int)) := HC.out (k - 1) (by omega)
        by_cases hd : nth ds (k - 1) = 0
        · have ht : ((nth ds (k - 1) : Int) == 0) = true := by rw [hd]; rfl
          have HD := Lib.hid hd
          clear hd
          go_wp2_with fail
          go_round
          case rel => exact ⟨k - 1, by omega, by first | rfl | (congr 1; omega), fun i h1 h2 => by
            by_cases e : i = k - 1
            · subst e; exact HD.out
            · exact hz.out i (by omega) h2⟩
          case measure => simp [lenOf]; omega
        · have ht : ((nth ds (k - 1) : Int) == 0) = false := by simp; omega
          have HD := Lib.hid hd
          clear hd
          go_wp2_with fail
          go_ret
          exact ⟨rfl, _, rfl, trim_end HL.out H.out hk hz.out (.inr HD.out)⟩

theorem row_lit (w : World) (ds : List Nat) (h : ds.length ≤ 1000) : Row (w.alloc (.cells (digitCells ds).toArray 62)) (.slice (some ⟨w.heap.size, 0, none⟩) ds.length ds.length) ds := by
  have := World.ownsRow_lit (base := 0) (e := 62) (size := 1) w (digitCells ds).toArray ds.length (Nat.zero_le _) (by unfold maxLen; omega) (by simp [digitCells])
  simpa [Row] using this
theorem isNat_small (w : World) (d : Nat) (h0 : d ≠ 0) (h : d < 4294967296) : IsNat (w.alloc (.cells #[.int .u32 (d : Int)] 62)) (.slice (some ⟨w.heap.size, 0, none⟩) 1 1) d := by
  unfold IsNat
  rw [Num.dg_small h0 h]
  exact row_lit w [d] (by simp)
theorem below_new (w : World) (o : Obj) : Below w.heap.size w (w.alloc o) := (Below.refl _ _).alloc (Nat.le_refl _) o

theorem one_any (w : World) : Calls Try.prog 42 #[] w (GivesNat 1 w) := by
  go_enter Try.func42, Try.ntmps42
  go_wp2_with fail
  go_ret
  exact GivesNat.mk (isNat_small w 1 (by decide) (by decide)) (below_new w _)

theorem natOf_any (a : Int) (w : World) (h0 : 0 ≤ a) (h1 : a ≤ 18446744073709551615) : Calls Try.prog 28 #[.int .u64 a] w (GivesNat a.toNat w) := by
  obtain ⟨n, rfl⟩ := Int.eq_ofNat_of_zero_le h0
  rw [Int.toNat_natCast]
  have hrow : Row (w.alloc (.cells #[.int .u32 ((n : Int) % 4294967296), .int .u32 ((n : Int) / 4294967296)] 62)) (.slice (some ⟨w.heap.size, 0, none⟩) 2 2) [n % 4294967296, n / 4294967296] := by
    have := row_lit w [n % 4294967296, n / 4294967296] (by simp)
    simpa [digitCells] using this
  have hval : Num.val [n % 4294967296, n / 4294967296] = n := by simp only [Num.val]; omega
  have HR := Lib.hid hrow
  have HV := Lib.hid hval
  clear hrow hval
  go_enter Try.func28, Try.ntmps28
  go_wp2_with fail
  refine (trim_any _ _ _ HR.out (by intro d hd; simp only [List.mem_cons, List.not_mem_nil, or_false] at hd; omega)).mono ?_
  rintro e w' ⟨rfl, v, rfl, hv⟩
  rw [HV.out] at hv
  have H := Lib.hid hv
  clear hv
  go_wp2_with fail
  go_ret
  exact GivesNat.mk H.out (below_new w _)

theorem digit_any (v : Value) (n : Nat) (i : Int) (w : World) (h : IsNat w v n) (h0 : 0 ≤ i) (h1 : i ≤ 9223372036854775807) :
    Calls Try.prog 51 #[v, .int .i64 i] w fun e w' => e = .returned (.int .u64 (Num.dig n i.toNat : Int)) ∧ w = w' := by
  obtain ⟨k, rfl⟩ := Int.eq_ofNat_of_zero_le h0
  rw [Int.toNat_natCast]
  have hd := Num.dig_lt n k
  rcases h.shape with ⟨rfl, rfl⟩ | ⟨g, cap, rfl, hg, hcap, hmax, hc⟩
  · have HE := Lib.hid (Num.dig_end (n := 0) (i := k) (by rw [Num.len_zero]; omega))
    clear h
    go_enter Try.func51, Try.ntmps51
    go_wp2_with fail
    go_ret
    exact ⟨ret_int (by rw [HE.out]; rfl), rfl⟩
  · clear h
    by_cases hk : k < Num.len n
    · have hcell := hc k hk
      clear hc
      go_enter Try.func51, Try.ntmps51
      go_wp2_with fail
      go_ret
      exact ⟨rfl, rfl⟩
    · have HE := Lib.hid (Num.dig_end (n := n) (i := k) (by omega))
      clear hc
      go_enter Try.func51, Try.ntmps51
      go_wp2_with fail
      go_ret
      exact ⟨ret_int (by rw [HE.out]; rfl), rfl⟩

/-- -1, 0 or 1 as a is less than, equal to or greater than b -/
def cmpN (a b : Nat) : Int := if a < b then -1 else if a = b then 0 else 1
theorem cmpN_lt {a b : Nat} (h : a < b) : cmpN a b = -1 := by unfold cmpN; rw [if_pos h]
theorem cmpN_eq {a b : Nat} (h : a = b) : cmpN a b = 0 := by unfold cmpN; rw [if_neg (by omega), if_pos h]
theorem cmpN_gt {a b : Nat} (h : b < a) : cmpN a b = 1 := by unfold cmpN; rw [if_neg (by omega), if_neg (by omega)]
theorem natLen_shape {w : World} {v : Value} {a : Nat} (ha : IsNat w v a) : ∃ A cap, v = .slice A (Num.len a) cap ∧ Num.len a ≤ cap ∧ cap ≤ 9223372036854775807 := by
  rcases ha.shape with ⟨rfl, rfl⟩ | ⟨g, cap, rfl, _, h1, h2, _⟩
  · exact ⟨none, 0, by rw [Num.len_zero], by rw [Num.len_zero]; omega, by omega⟩
  · exact ⟨_, cap, rfl, by omega, by omega⟩
set_option maxHeartbeats 400000 in
theorem natCmp_any (va vb : Value) (a b : Nat) (w : World) (ha : IsNat w va a) (hb : IsNat w vb b) : Calls Try.prog 29 #[va, vb] w fun e w' => e = .returned (.int .i64 (cmpN a b)) ∧ w = w' := by
  have HA := Lib.hid ha
  have HB := Lib.hid hb
  obtain ⟨Aa, ca, rfl, la, la'⟩ := natLen_shape ha
  obtain ⟨Ab, cb, rfl, lb, lb'⟩ := natLen_shape hb
  clear ha hb
  obtain ⟨M, hMa, hMb, hM⟩ : ∃ M, Num.len a ≤ M ∧ Num.len b ≤ M ∧ ((Num.len a < Num.len b ∧ M = Num.len b) ∨ (¬ Num.len a < Num.len b ∧ M = Num.len a)) := by
    by_cases h : Num.len a < Num.len b
    · exact ⟨Num.len b, by omega, by omega, .inl ⟨h, rfl⟩⟩
    · exact ⟨Num.len a, by omega, by omega, .inr ⟨h, rfl⟩⟩
  rcases hM with ⟨hlt, rfl⟩ | ⟨hlt, rfl⟩
  all_goals
    go_enter Try.func29, Try.ntmps29
    go_wp2_with fail
    go_loop [5] (fun i => ∃ k : Int, -1 ≤ k ∧ Hid (k < (max (Num.len a) (Num.len b) : Nat)) ∧ i = .int .i64 k ∧ Hid (∀ j : Nat, k < (j : Int) → j < max (Num.len a) (Num.len b) → Num.dig a j = Num.dig b j)) (fun i => (intOf i + 1).toNat)
    case atStart => exact ⟨_, by omega, by show _ < _; omega, rfl, fun j h1 h2 => absurd h1 (by omega)⟩
    case round =>
      obtain ⟨k, hk, hkM, rfl, hz⟩ := hrel
      have hk9 : k ≤ 9223372036854775806 := by have := hkM.out; omega
      by_cases h0 : 0 ≤ k
      · obtain ⟨m, rfl⟩ := Int.eq_ofNat_of_zero_le h0
        have d1 := Num.dig_lt a m
        have d2 := Num.dig_lt b m
        have hm : m < max (Num.len a) (Num.len b) := by have := hkM.out; omega
        have HM := Lib.hid hm
        clear hm
        go_wp2_with fail
        refine (digit_any _ a _ _ HA.out (by omega) (by omega)).mono ?_
        rintro e w' ⟨rfl, rfl⟩
        go_wp2_with fail
        refine (digit_any _ b _ _ HB.out (by omega) (by omega)).mono ?_
        rintro e w' ⟨rfl, rfl⟩
        rw [Int.toNat_natCast]
        by_cases l1 : Num.dig a m < Num.dig b m
        · have HF := Lib.hid (cmpN_lt (Num.cmp_lt HM.out (Nat.le_max_left _ _) (Nat.le_max_right _ _) (fun j h1 h2 => hz.out j (by omega) h2) l1))
          go_wp2_with fail
          go_ret
          exact ⟨ret_int HF.out.symm, rfl⟩
        · by_cases l2 : Num.dig b m < Num.dig a m
          · have HF := Lib.hid (cmpN_gt (Num.cmp_lt HM.out (Nat.le_max_right _ _) (Nat.le_max_left _ _) (fun j h1 h2 => (hz.out j (by omega) h2).symm) l2))
            go_wp2_with fail
            go_ret
            exact ⟨ret_int HF.out.symm, rfl⟩
          · have HE := Lib.hid (show Num.dig a m = Num.dig b m by omega)
            go_wp2_with fail
            go_round
            case rel => exact ⟨(m : Int) - 1, by omega, by have := HM.out; show _ < _; omega, rfl, fun j h1 h2 => by
              by_cases e : j = m
              · subst e; exact HE.out
              · exact hz.out j (by omega) h2⟩
            case measure => simp [intOf] <;> omega
      · obtain rfl : k = -1 := by omega
        have HF := Lib.hid (cmpN_eq (Num.cmp_eq (Nat.le_max_left _ _) (Nat.le_max_right _ _) (fun j h2 => hz.out j (by omega) h2)))
        go_wp2_with fail
        go_ret
        exact ⟨ret_int HF.out.symm, rfl⟩
end Go.Proofs.Ytfkhingkmfapbaa
