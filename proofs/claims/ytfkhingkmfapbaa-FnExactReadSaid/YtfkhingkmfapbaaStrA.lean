/- Dec, Head, Tail, Zeros of the reference, by contracts: what text each returns. -/
import Derived.Test.YtfkhingkmfapbaaStr
import Derived.WalkSpells
namespace Go.Proofs.Ytfkhingkmfapbaa
open Go.RowKit

/-- a call hands back a text; nothing that was there has turned -/
def GivesText (l : List Nat) (w : World) (e : Ending) (w' : World) : Prop := e = .returned (.string (bs l)) ∧ Below w.heap.size w w'
theorem ret_text {a b : ByteArray} (h : a = b) : Ending.returned (.string a) = .returned (.string b) := by rw [h]

theorem bytes_one (w : World) (c : Int) (k : Nat) (h : c = k) :
    (convert 78 9 (.slice (some ⟨w.heap.size, 0, none⟩) 1 1)).run Try.prog (w.alloc (.cells #[.int .u8 c] 5)) = .ok (.string (bs [k])) (w.alloc (.cells #[.int .u8 c] 5)) := by
  have := run_convert_bytes_arg (P := Try.prog) (w.alloc (.cells #[.int .u8 c] 5)) 78 5 Try.underlying78 Try.underlying5 w.heap.size 0 1 1 [c] rfl
    (by intro i hi; obtain rfl : i = 0 := by omega
        simp [go_sem]) 9 Try.underlying9
  rw [this]
  have e := bs_nums [k]
  subst h
  simp only [List.map_cons, List.map_nil] at e
  rw [e]

set_option maxRecDepth 100000 in
theorem dec_any (k : Nat) : ∀ (a : Int) (w : World), 0 ≤ a → a ≤ 18446744073709551615 → a.toNat ≤ k → Calls Try.prog 48 #[.int .u64 a] w (GivesText (decL a.toNat) w) := by
  induction k with
  | zero =>
    intro a w h0 h1 hk
    obtain rfl : a = 0 := by omega
    have hcv := bytes_one w 48 48 rfl
    have HD := Lib.hid (decL_small (n := (0 : Int).toNat) (by omega))
    go_enter Try.func48, Try.ntmps48
    go_wp2_with fail
    go_ret
    exact ⟨ret_text (by rw [HD.out]; rfl), below_new w _⟩
  | succ k ih =>
    intro a w h0 h1 hk
    obtain ⟨n, rfl⟩ := Int.eq_ofNat_of_zero_le h0
    rw [Int.toNat_natCast] at hk ⊢
    have hcv := bytes_one w (48 + (n : Int) % 10) (48 + n % 10) (by omega)
    have IH := Lib.hid ih
    clear ih
    by_cases h : n < 10
    · have HD := Lib.hid (decL_small h)
      have HM := Lib.hid (show n % 10 = n by omega)
      go_enter Try.func48, Try.ntmps48
      go_wp2_with fail
      go_ret
      exact ⟨ret_text (by rw [HD.out, HM.out]), below_new w _⟩
    · have HD := Lib.hid (decL_big h)
      have hs1 : (bs (decL (n / 10))).size ≤ 30 := by rw [bs_size]; have := decL_len_le (n := n / 10) (k := 19) (by omega); omega
      have hs2 : (bs [48 + n % 10]).size ≤ 30 := by rw [bs_size]; simp
      go_enter Try.func48, Try.ntmps48
      go_wp2_with fail
      refine (IH.out _ _ (by omega) (by omega) (by omega)).mono ?_
      rintro e w1 ⟨rfl, hb⟩
      have HB := Lib.hid ((below_new w _).trans (hb.mono (by simp)))
      clear hb
      rw [show ((n : Int) / 10).toNat = n / 10 from by omega]
      go_wp2_with fail
      go_ret
      exact ⟨ret_text (by rw [HD.out, bs_append]), HB.out⟩
theorem dec_out (a : Int) (w : World) (h0 : 0 ≤ a) (h1 : a ≤ 18446744073709551615) : Calls Try.prog 48 #[.int .u64 a] w (GivesText (decL a.toNat) w) := dec_any _ a w h0 h1 (Nat.le_refl _)

/-- without zeros in front -/
def headL : List Nat → List Nat
  | [] => []
  | c :: r => if c = 48 then headL r else c :: r
/-- without zeros behind -/
def tailL (l : List Nat) : List Nat := (headL l.reverse).reverse
theorem headL_nil : headL [] = [] := rfl
theorem headL_hit {m : List Nat} (h : 0 < m.length) (h0 : nth m 0 = 48) : headL m = headL (m.drop 1) := by
  cases m with
  | nil => simp at h
  | cons c r =>
    have : c = 48 := by simpa [nth] using h0
    simp [headL, this]
theorem headL_miss {m : List Nat} (h : 0 < m.length) (h0 : nth m 0 ≠ 48) : headL m = m := by
  cases m with
  | nil => simp at h
  | cons c r =>
    have : c ≠ 48 := by simpa [nth] using h0
    simp [headL, this]
theorem tailL_nil : tailL [] = [] := rfl
theorem snoc_of {m : List Nat} (h : 0 < m.length) : m = m.take (m.length - 1) ++ [nth m (m.length - 1)] := by
  have e := List.take_append_drop (m.length - 1) m
  have hd : m.drop (m.length - 1) = [nth m (m.length - 1)] := by
    rw [List.drop_eq_getElem_cons (by omega), List.drop_eq_nil_of_le (by omega)]
    simp [nth, List.getD_eq_getElem?_getD, show m.length - 1 < m.length by omega]
  rw [hd] at e
  exact e.symm
theorem tailL_hit {m : List Nat} (h : 0 < m.length) (h0 : nth m (m.length - 1) = 48) : tailL m = tailL (m.take (m.length - 1)) := by
  have e := snoc_of h
  rw [h0] at e
  unfold tailL
  conv => lhs; rw [e]
  simp [headL]
theorem tailL_miss {m : List Nat} (h : 0 < m.length) (h0 : nth m (m.length - 1) ≠ 48) : tailL m = m := by
  have e := snoc_of h
  unfold tailL
  conv => lhs; rw [e]
  simp only [List.reverse_append, List.reverse_cons, List.reverse_nil, List.nil_append, List.singleton_append, headL, if_neg h0]
  simp only [List.reverse_reverse]
  exact e.symm

def strLen : Value → Nat | .string s => s.size | _ => 0

set_option maxRecDepth 100000 in
theorem head_any (l : List Nat) (w : World) (hB : Bytes l) : Calls Try.prog 26 #[.string (bs l)] w fun e w' => e = .returned (.string (bs (headL l))) ∧ w = w' := by
  have HB := Lib.hid hB
  clear hB
  go_enter Try.func26, Try.ntmps26
  go_wp2_with fail
  go_loop [0] (fun t => ∃ m : List Nat, m.length ≤ l.length ∧ t = .string (bs m) ∧ Hid (Bytes m) ∧ Hid (headL m = headL l)) (fun t => strLen t)
  case atStart => exact ⟨l, Nat.le_refl _, rfl, HB.out, rfl⟩
  case round =>
    obtain ⟨m, hm, rfl, hb, hh⟩ := hrel
    have hsz := bs_size m
    have HSZ := Lib.hid hsz
    have hget := get_bs m hb.out
    by_cases h0 : m.length = 0
    · have HM := Lib.hid (List.eq_nil_of_length_eq_zero h0)
      go_wp2_with fail
      go_ret
      exact ⟨ret_text (by rw [← hh.out, HM.out]; rfl), rfl⟩
    · have hp : 0 < m.length := by omega
      by_cases hc : nth m 0 = 48
      · have ht : ((nth m 0 : Int) == 48) = true := by rw [hc]; rfl
        have HC := Lib.hid hc
        clear hc
        go_wp2_with fail
        go_round
        case rel => exact ⟨m.drop 1, by simp; omega, by first | rw [bs_drop'] | rw [bs_drop], bytes_drop hb.out 1, (headL_hit hp HC.out).symm.trans hh.out⟩
        case measure => simp only [strLen]; first | rw [bs_drop', bs_size, HSZ.out] | rw [bs_drop, bs_size, HSZ.out]
                        simp; omega
      · have ht : ((nth m 0 : Int) == 48) = false := by simp; omega
        have HC := Lib.hid hc
        clear hc
        go_wp2_with fail
        go_ret
        exact ⟨ret_text (by rw [← hh.out, headL_miss hp HC.out]), rfl⟩

set_option maxRecDepth 100000 in
theorem tail_any (l : List Nat) (w : World) (hB : Bytes l) (hl : l.length ≤ 9223372036854775807) : Calls Try.prog 27 #[.string (bs l)] w fun e w' => e = .returned (.string (bs (tailL l))) ∧ w = w' := by
  have HB := Lib.hid hB
  clear hB
  go_enter Try.func27, Try.ntmps27
  go_wp2_with fail
  go_loop [0] (fun t => ∃ m : List Nat, m.length ≤ l.length ∧ t = .string (bs m) ∧ Hid (Bytes m) ∧ Hid (tailL m = tailL l)) (fun t => strLen t)
  case atStart => exact ⟨l, Nat.le_refl _, rfl, HB.out, rfl⟩
  case round =>
    obtain ⟨m, hm, rfl, hb, hh⟩ := hrel
    have hsz := bs_size m
    have HSZ := Lib.hid hsz
    have hget := get_bs m hb.out
    by_cases h0 : m.length = 0
    · have HM := Lib.hid (List.eq_nil_of_length_eq_zero h0)
      go_wp2_with fail
      go_ret
      exact ⟨ret_text (by rw [← hh.out, HM.out]; rfl), rfl⟩
    · have hp : 0 < m.length := by omega
      by_cases hc : nth m (m.length - 1) = 48
      · have ht : ((nth m (m.length - 1) : Int) == 48) = true := by rw [hc]; rfl
        have HC := Lib.hid hc
        clear hc
        go_wp2_with fail
        go_round
        case rel => exact ⟨m.take (m.length - 1), by simp; omega, by rw [bs_take], bytes_take hb.out _, (tailL_hit hp HC.out).symm.trans hh.out⟩
        case measure => simp only [strLen]; rw [bs_take, bs_size, HSZ.out]
                        simp; omega
      · have ht : ((nth m (m.length - 1) : Int) == 48) = false := by simp; omega
        have HC := Lib.hid hc
        clear hc
        go_wp2_with fail
        go_ret
        exact ⟨ret_text (by rw [← hh.out, tailL_miss hp HC.out]), rfl⟩
end Go.Proofs.Ytfkhingkmfapbaa
