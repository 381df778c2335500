/- Digits and Value of the reference, by contracts: the number of a text of digits, and the ratio of a decimal number. -/
import Derived.Test.YtfkhingkmfapbaaNatD
import Derived.Test.YtfkhingkmfapbaaTimes
import Derived.Test.YtfkhingkmfapbaaStrA
namespace Go.Proofs.Ytfkhingkmfapbaa
open Go.RowKit

theorem take_snoc_nth (l : List Nat) {k : Nat} (h : k < l.length) : l.take (k + 1) = l.take k ++ [nth l k] := by
  rw [List.take_succ_eq_append_getElem h]
  simp [nth, List.getD_eq_getElem?_getD, h]
theorem digs_nth {l : List Nat} (h : Digs l) {k : Nat} (hk : k < l.length) : 48 ≤ nth l k ∧ nth l k ≤ 57 := by
  have e : nth l k = l[k] := by simp [nth, List.getD_eq_getElem?_getD, hk]
  rw [e]; exact h _ (List.getElem_mem hk)
theorem digs_take {l : List Nat} (h : Digs l) (k : Nat) : Digs (l.take k) := fun x hx => h x (List.mem_of_mem_take hx)
theorem digs_drop {l : List Nat} (h : Digs l) (k : Nat) : Digs (l.drop k) := fun x hx => h x (List.mem_of_mem_drop hx)
theorem valD_lt {l : List Nat} (h : Digs l) : valD l < 10 ^ l.length := by
  suffices ∀ n, ∀ l : List Nat, l.length = n → Digs l → valD l < 10 ^ n from this _ l rfl h
  intro n
  induction n with
  | zero => intro l hl _; obtain rfl := List.eq_nil_of_length_eq_zero hl; simp [valD]
  | succ n ih =>
    intro l hl hd
    have e := snoc_of (m := l) (by omega)
    have h1 := ih (l.take (l.length - 1)) (by simp; omega) (digs_take hd _)
    have h2 := digs_nth hd (k := l.length - 1) (by omega)
    rw [e, valD_snoc, Nat.pow_succ]
    omega
theorem valD_len {l : List Nat} (h : Digs l) (hl : l.length ≤ 1600) : Num.len (valD l) ≤ 210 := by
  have h1 := Num.len_mono (Nat.le_of_lt (valD_lt h))
  have h2 := Num.len_pow10 l.length
  omega
theorem bytes_digs {l : List Nat} (h : Digs l) : Bytes l := fun x hx => by have := h x hx; omega

theorem IsNat.drew {w : World} {v : Value} {n : Nat} (h : IsNat w v n) : IsNat w.drew v n := h

set_option maxHeartbeats 1000000 in
set_option maxRecDepth 100000 in
theorem digits_any (l : List Nat) (w : World) (hd : Digs l) (hl : l.length ≤ 1600) : Calls Try.prog 24 #[.string (bs l)] w (GivesNat (valD l) w) := by
  have hsz := bs_size l
  have hget := get_bs l (bytes_digs hd)
  have HD := Lib.hid hd
  clear hd
  have L10 : Num.len 10 = 1 := Num.len_small (by decide) (by decide)
  have HL10 := Lib.hid L10
  clear L10
  go_enter Try.func24, Try.ntmps24
  go_wp2_with fail
  go_loopw [3, 4] (fun v i wr => ∃ k : Nat, k ≤ l.length ∧ i = .int .i64 k ∧ Hid (IsNat wr v (valD (l.take k))) ∧ Hid (Below w.heap.size w wr)) (fun _ i _ => l.length - (intOf i).toNat)
  case atStart => exact ⟨0, by omega, rfl, by show Row _ _ _; rw [show valD (l.take 0) = 0 from rfl, Num.dg_zero]; exact ⟨rfl, .inl ⟨rfl, rfl⟩⟩, Below.refl _ _⟩
  case round =>
    obtain ⟨k, hk, rfl, hv, hb⟩ := hrel
    by_cases hlt : k < l.length
    · have hc := digs_nth HD.out hlt
      have HN := Lib.hid (valD_len (digs_take HD.out k) (by simp; omega))
      obtain ⟨d, hd, hd9⟩ : ∃ d : Nat, nth l k = d + 48 ∧ d ≤ 9 := ⟨nth l k - 48, by omega, by omega⟩
      have HE := Lib.hid (show valD (l.take (k + 1)) = valD (l.take k) * 10 + (d : Int).toNat by rw [take_snoc_nth l hlt, valD_snoc, hd]; omega)
      have HLd := Lib.hid (show Num.len (d : Int).toNat ≤ 1 from Num.len_le (by omega))
      have hw1 : IntKind.u8.wrap ((nth l k : Int) - 48) = (d : Int) := by rw [hd, IntWalk.u8_in _ (by omega)]; omega
      have hw2 : IntKind.u64.wrap (d : Int) = (d : Int) := IntWalk.u64_in _ (by omega)
      have HDd := Lib.hid hd
      clear hd
      have HL2 := Lib.hid (Num.len_mul (valD (l.take k)) 10)
      go_upto_region 5 with fail
      go_region_with
        (first
          | (go_at_call 38; refine (natMul_any _ _ (valD (l.take k)) 10 _ (by exact (hv.out.alloc _).drew) (by exact (isNat_small wr 10 (by decide) (by decide)).drew) (by have := HN.out; have := HL10.out; omega)).mono ?_; rintro e' w4 ⟨v4, rfl, hv4, hb4⟩)
          | (go_at_call 28; refine (natOf_any _ _ (by omega) (by omega)).mono ?_; rintro e' w5 ⟨v5, rfl, hv5, hb5⟩)
          | (go_at_call 41; refine (natAdd_any _ _ (valD (l.take k) * 10) _ _ (hv4.later hb5) hv5 (by have := HN.out; have := HL10.out; have := HL2.out; omega) (by have := HLd.out; omega)).mono ?_; rintro e' w6 ⟨v6, rfl, hv6, hb6⟩))
      all_goals
        rw [← HE.out] at hv6
        have HV6 := Lib.hid hv6
        have HB6 := Lib.hid (hb.out.trans ((((below_new wr _).trans ((undrew hb4).mono (by simp))).trans ((hb5.trans (hb6.mono hb5.size)).mono (Nat.le_trans (by simp) hb4.size))).mono hb.out.size))
        clear hv6 hb4 hb5 hb6 hv4 hv5 hw1 hw2
        go_wp2_with fail
        go_roundw
        case rel => exact ⟨k + 1, by omega, by go_num, HV6, HB6⟩
        case measure => simp [intOf]; omega
    · obtain rfl : k = l.length := by omega
      have hv' := hv.out
      rw [List.take_length] at hv'
      have HV := Lib.hid hv'
      clear hv'
      go_wp2_with fail
      go_ret
      exact GivesNat.mk HV.out hb.out
end Go.Proofs.Ytfkhingkmfapbaa
