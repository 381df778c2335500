/- Scientific of the reference, by a contract: the text that it returns. -/
import Derived.Test.YtekicbnfabpaeaaFmtEP
import Derived.Test.YtekicbnfabpaeaaUnsP
namespace Go.Proofs.Ytekicbnfabpaeaa
open Go.RowKit

theorem sign_any (neg : Bool) (w : World) : Calls Try.prog 48 #[.bool neg] w fun e w' => e = .returned (.string (bs (signL neg))) ∧ w = w' := by
  cases neg
  · go_enter Try.func48, Try.ntmps48
    go_wp2_with fail
    go_ret
    exact ⟨rfl, rfl⟩
  · go_enter Try.func48, Try.ntmps48
    go_wp2_with fail
    go_ret
    exact ⟨rfl, rfl⟩
theorem below_hush' {w : World} (n : Nat) : Below w.heap.size w (w.drewN n) := ⟨rfl, rfl, rfl, Nat.le_refl _, fun _ _ => rfl⟩
theorem signL_len (neg : Bool) : (signL neg).length ≤ 1 := by cases neg <;> decide
def sciS (neg : Bool) (W : List Nat) (e : Int) (c : Nat) : List Nat := signL neg ++ W.take 1 ++ (if 1 < W.length then [46] ++ W.drop 1 else []) ++ [c] ++ [expSign e] ++ (if e.natAbs < 10 then [48] else []) ++ decL e.natAbs
theorem val_text {a b : ByteArray} (h : a = b) : Value.string a = .string b := by rw [h]

set_option maxHeartbeats 1000000 in
theorem scientific_any (neg : Bool) (W : List Nat) (x : Int) (c : Nat) (w : World) (h0 : 0 < W.length) (hl : W.length ≤ 1000) (x1 : -1000 < x) (x2 : x < 1000) :
    Calls Try.prog 30 #[.bool neg, .string (bs W), .int .i64 x, .int .u8 c] w (GivesText (sciS neg W x c) w) := by
  have hsz := bs_size W
  have hs0 : (bs (signL neg)).size ≤ 1 := by rw [bs_size]; exact signL_len neg
  have hw : (1 : Int) ≤ (W.length : Int) := by omega
  have htk : (bs W).extract 0 1 = bs (W.take 1) := bs_take W 1
  have hs1 : (bs (W.take 1)).size ≤ 1 := by rw [bs_size]; simp; omega
  go_enter Try.func30, Try.ntmps30
  go_upto_region 1 with fail
  go_cut [9] (fun s wx => s = .string (bs (signL neg ++ W.take 1)) ∧ Hid (Below w.heap.size w wx))
  case first =>
    go_quiet ((go_at_call 48; exact hush (sign_any _ _)))
    go_wp2_with fail
    go_meet
    exact ⟨val_text (bs_append _ _), below_hush' _⟩
  case rest =>
    obtain ⟨rfl, hb⟩ := hcut
    clear hs0 htk hs1
    have hs2 : (signL neg ++ W.take 1).length ≤ 2 := by have := signL_len neg; simp; omega
    have HL : Hid (∀ L, L = signL neg ++ W.take 1 → sciS neg W x c = L ++ (if 1 < W.length then [46] ++ W.drop 1 else []) ++ [c] ++ [expSign x] ++ (if x.natAbs < 10 then [48] else []) ++ decL x.natAbs) := by
      intro L h; rw [h]; rfl
    have HL2 := Lib.hid (HL.out _ rfl)
    clear HL
    generalize signL neg ++ W.take 1 = L1 at *
    have hz1 := bs_size L1
    go_upto_if 17 with fail
    go_cut [9] (fun s wx => s = .string (bs (L1 ++ (if 1 < W.length then [46] ++ W.drop 1 else []))) ∧ wx = wc)
    case first =>
      by_cases h1 : 1 < W.length
      · have h1' : (1 : Int) < (W.length : Int) := by omega
        obtain ⟨R, hR⟩ : ∃ R, R = W.drop 1 := ⟨_, rfl⟩
        have hd : (bs W).extract 1 W.length = bs R := by rw [hR]; exact bs_drop' W 1
        have hz2 : (bs R).size ≤ 1000 := by rw [bs_size, hR]; simp; omega
        have HR := Lib.hid hR
        clear hR
        have hk : (⟨#[46]⟩ : ByteArray).size = 1 := rfl
        go_wp2_with fail
        go_meet
        exact ⟨val_text (by rw [if_pos h1, ← HR.out, ← bs_append, ← bs_append]; rfl), rfl⟩
      · have h1' : (W.length : Int) ≤ 1 := by omega
        go_wp2_with fail
        go_meet
        exact ⟨val_text (by rw [if_neg h1, List.append_nil]), rfl⟩
    case rest =>
      obtain ⟨rfl, rfl⟩ := hcut
      have hl2 : (L1 ++ (if 1 < W.length then [46] ++ W.drop 1 else [])).length ≤ 2000 := by split <;> simp <;> omega
      generalize L1 ++ (if 1 < W.length then [46] ++ W.drop 1 else []) = L2 at *
      clear hs2 hz1 hsz
      have hz2 := bs_size L2
      have hzc : (bs [c]).size = 1 := bs_size _
      have hcv := bytes_one wc (c : Int) c rfl
      have HBn := Lib.hid (hb.out.trans ((below_new wc (.cells #[.int .u8 (c : Int)] 5)).mono hb.out.size))
      go_upto_if 29 with fail
      generalize wc.alloc (.cells #[.int .u8 (c : Int)] 5) = W2 at *
      clear hcv
      have hap := bs_append L2 [c]
      rw [hap]
      have hz3 := bs_size (L2 ++ [c])
      have hl3 : (L2 ++ [c]).length ≤ 2001 := by simp; omega
      clear hap hz2 hzc hb
      generalize L2 ++ [c] = L3 at *
      go_cut [2, 9] (fun y s wx => y = .int .i64 (x.natAbs : Int) ∧ s = .string (bs (L3 ++ [expSign x])) ∧ wx = W2)
      case first =>
        have hk : (⟨#[45]⟩ : ByteArray).size = 1 := rfl
        have hk2 : (⟨#[43]⟩ : ByteArray).size = 1 := rfl
        by_cases hneg : x < 0
        · go_wp2_with fail
          go_meet
          exact ⟨congrArg _ (by omega), val_text (by rw [expSign, if_pos hneg, ← bs_append]; rfl), rfl⟩
        · go_wp2_with fail
          go_meet
          exact ⟨congrArg _ (by omega), val_text (by rw [expSign, if_neg (by omega), ← bs_append]; rfl), rfl⟩
      case rest =>
        obtain ⟨rfl, rfl, rfl⟩ := hcut
        have hx : x.natAbs ≤ 1000 := by omega
        generalize expSign x = sg at *
        generalize x.natAbs = y at *
        clear hz3
        have hl4 : (L3 ++ [sg]).length ≤ 2002 := by simp; omega
        generalize L3 ++ [sg] = L4 at *
        have hz4 := bs_size L4
        go_upto_if 37 with fail
        go_cut [9] (fun s wx => s = .string (bs (L4 ++ (if y < 10 then [48] else []))) ∧ wx = wc)
        case first =>
          have hk : (⟨#[48]⟩ : ByteArray).size = 1 := rfl
          by_cases h1 : y < 10
          · go_wp2_with fail
            go_meet
            exact ⟨val_text (by rw [if_pos h1, ← bs_append]; rfl), rfl⟩
          · go_wp2_with fail
            go_meet
            exact ⟨val_text (by rw [if_neg h1, List.append_nil]), rfl⟩
        case rest =>
          obtain ⟨rfl, rfl⟩ := hcut
          have hl5 : (L4 ++ (if y < 10 then [48] else [])).length ≤ 2003 := by split <;> simp <;> omega
          generalize L4 ++ (if y < 10 then [48] else []) = L5 at *
          have hz5 := bs_size L5
          clear hz4
          go_wp2_with fail
          refine (dec_out _ _ (by omega) (by omega)).mono ?_
          rintro e w1 ⟨rfl, hb1⟩
          rw [Int.toNat_natCast]
          have HB1 := Lib.hid (HBn.out.trans (hb1.mono HBn.out.size))
          clear hb1
          have hz6 : (bs (decL y)).size ≤ 20 := by rw [bs_size]; have := decL_len_le (n := y) (k := 19) (by omega); omega
          go_wp2_with fail
          go_ret
          exact ⟨ret_text (by rw [HL2.out, bs_append]), HB1.out⟩
end Go.Proofs.Ytekicbnfabpaeaa
