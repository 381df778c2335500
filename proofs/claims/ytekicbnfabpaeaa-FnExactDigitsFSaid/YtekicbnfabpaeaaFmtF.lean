/- fmtEFG of the package in the format f, by a contract: the text that it appends. Written by gen_fmtF.py. -/
import Derived.Test.YtekicbnfabpaeaaFmtEP
namespace Go.Proofs.Ytekicbnfabpaeaa
open Go.RowKit

theorem drop_take_snoc (D : List Nat) {o k : Nat} (h : o + k < D.length) : (D.drop o).take (k + 1) = (D.drop o).take k ++ [nth D (o + k)] := by
  rw [List.take_succ_eq_append_getElem (by simp; omega)]
  simp [nth, List.getD_eq_getElem?_getD, h]
/-- in front of the point -/
def wholeL (D : List Nat) (dp : Int) : List Nat := if 0 < dp then D.take dp.toNat ++ List.replicate (dp.toNat - D.length) 48 else [48]
/-- behind it -/
def partL (D : List Nat) (dp : Int) : List Nat := if 0 < dp then D.drop dp.toNat else List.replicate (-dp).toNat 48 ++ D
def fracF (D : List Nat) (dp : Int) (p : Nat) : List Nat := if 0 < p then [46] ++ (partL D dp ++ List.replicate p 48).take p else []
def plainL (neg : Bool) (D : List Nat) (dp : Int) (p : Nat) : List Nat := signL neg ++ wholeL D dp ++ fracF D dp p
theorem take_pad (X : List Nat) (p m : Nat) (hm : m = min p X.length) : (X ++ List.replicate p 48).take p = X.take m ++ List.replicate (p - m) 48 := by
  rw [List.take_append, List.take_replicate]
  by_cases h : p ≤ X.length
  · have e1 : p - X.length = 0 := by omega
    have e2 : m = p := by omega
    rw [e1, e2]; simp
  · have e2 : m = X.length := by omega
    rw [e2, List.take_of_length_le (by omega), List.take_of_length_le (Nat.le_refl _)]
    congr 2
    omega
/-- the parts behind the point -/
theorem frac_parts (D : List Nat) (dp : Int) (p : Nat) (hp0 : 0 < p) (hp : (D.length : Int) - dp ≤ p) :
    ∃ lz off m tz : Nat, fracF D dp p = [46] ++ List.replicate lz 48 ++ (D.drop off).take m ++ List.replicate tz 48 ∧ off + m ≤ D.length + off ∧ (m = 0 ∨ off + m ≤ D.length) ∧
      min (p : Int) (max 0 (-dp)) = lz ∧ dp + lz = off ∧ min ((p : Int) - lz) (max 0 ((D.length : Int) - off)) = m ∧ max 0 ((p : Int) - lz - m) = tz ∧ lz ≤ p ∧ tz ≤ p ∧ (off : Int) ≤ max dp 0 := by
  by_cases hd : 0 < dp
  · obtain ⟨d, rfl⟩ := Int.eq_ofNat_of_zero_le (Int.le_of_lt hd)
    refine ⟨0, d, D.length - d, p - (D.length - d), ?_, by omega, by omega, by omega, by omega, by omega, by omega, by omega, by omega, by omega⟩
    unfold fracF partL
    rw [if_pos hp0, if_pos hd, Int.toNat_natCast, take_pad _ p (D.length - d) (by simp; omega)]
    simp
  · obtain ⟨z, hz⟩ := Int.eq_ofNat_of_zero_le (show 0 ≤ -dp by omega)
    refine ⟨z, 0, D.length, p - z - D.length, ?_, by omega, by omega, by omega, by omega, by omega, by omega, by omega, by omega, by omega⟩
    unfold fracF partL
    rw [if_pos hp0, if_neg hd, hz, Int.toNat_natCast, take_pad _ p (z + D.length) (by simp; omega), List.take_of_length_le (by simp)]
    simp [Nat.sub_sub]

set_option maxHeartbeats 4000000 in
set_option maxRecDepth 100000 in
theorem fmtF_any (neg sh : Bool) (sv : Value) (D : List Nat) (dp : Int) (p : Nat) (w : World) (hD : Reads w sv D) (h0 : 0 < D.length) (h1 : D.length ≤ 60) (hp : (D.length : Int) - dp ≤ p) (hp2 : p ≤ 1000) (d1 : -1000 < dp) (d2 : dp < 1000) :
    Calls Try.prog 62 #[.slice none 0 0, .bool neg, sv, .int .i64 dp, .int .i64 D.length, .int .i64 p, .int .u8 102, .bool sh] w fun e w' => ∃ v, e = .returned v ∧ BRow w' w.heap.size v (plainL neg D dp p) ∧ Below w.heap.size w w' := by
  obtain ⟨gs, cs, rfl, hg2, hc1, hc2, hcell⟩ := hD
  have HC := Lib.hid hcell
  clear hcell
  go_enter Try.func62, Try.ntmps62
  go_upto_if 178 with fail
  go_cut [0] (fun s wx => Dst w wx s (signL neg))
  case first =>
    as_aux_lemma =>
      cases neg
      · go_wp2_with fail
        go_meet
        exact ⟨BRow.nil _ _, Below.refl _ _⟩
      · go_wp2_with (at_builtin; refine wpList_app rfl _ _ rfl w _ [] rfl (BRow.nil _ _) ((Below.refl _ _).alloc (Nat.le_refl _) _) ⟨w.heap.size, 0, none⟩ 1 1 [45] rfl rfl (cell_new _ 45) (by decide) ?_; intro v' w' hr' hb')
        go_meet
        exact ⟨hr', hb'⟩
  case rest =>
    obtain ⟨hr, hb⟩ := hcut
    have HR := Lib.hid hr
    have HBl := Lib.hid hb
    have hl0 : (signL neg).length ≤ 1 := by cases neg <;> decide
    have SC : Hid (plainL neg D dp p = signL neg ++ wholeL D dp ++ fracF D dp p) := rfl
    clear hr hb
    generalize signL neg = L0 at *
    go_upto_if 183 with fail
    go_cut [0] (fun s wx => Dst w wx s (L0 ++ wholeL D dp))
    case first =>
      as_aux_lemma =>
        by_cases hd : 0 < dp
        · obtain ⟨d, rfl⟩ := Int.eq_ofNat_of_zero_le (Int.le_of_lt hd)
          obtain ⟨m, hm⟩ : ∃ m, m = min D.length d := ⟨_, rfl⟩
          have EW := Lib.hid (show L0 ++ wholeL D d = L0 ++ (D.drop 0).take m ++ List.replicate (d - m) 48 by
            rw [wholeL, if_pos hd, Int.toNat_natCast, List.drop_zero, List.append_assoc]
            congr 2
            · rcases (show m = d ∨ (m = D.length ∧ D.length ≤ d) by omega) with h | ⟨h, h'⟩
              · rw [h]
              · rw [h, List.take_of_length_le h', List.take_of_length_le (Nat.le_refl _)]
            · congr 1; omega)
          have hm1 : m ≤ D.length := by omega
          have hm2 : m ≤ d := by omega
          go_upto_region 56 with fail
          go_cut [23] (fun s wx => s = .int .i64 m ∧ wx = wc)
          case first =>
            as_aux_lemma =>
              go_wp2_with fail
              all_goals (go_meet; exact ⟨congrArg _ (by omega), rfl⟩)
          case rest =>
            as_aux_lemma =>
              obtain ⟨rfl, rfl⟩ := hcut
              clear hm
              go_wp2_with fail
              go_loopw [0, 191, 25] (fun v i _ wr => ∃ k : Nat, k ≤ m ∧ i = .int .i64 k ∧ Hid (Dst w wr v (L0 ++ (D.drop 0).take k))) (fun _ i _ _ => m - (intOf i).toNat)
              case atStart => exact ⟨0, by omega, rfl, by rw [List.take_zero, List.append_nil]; exact HR.out, HBl.out⟩
              case round =>
                obtain ⟨k, hk, rfl, hd⟩ := hrel
                by_cases hlt : k < m
                · as_aux_lemma =>
                    have x1 := (hd.out.2.cell (p := ⟨gs, 0 + k, none⟩) (by exact hg2)).trans (HC.out (0 + k) (by omega))
                    rw [Nat.zero_add] at x1
                    have HT := Lib.hid (drop_take_snoc D (o := 0) (k := k) (by omega))
                    have hlk : (L0 ++ (D.drop 0).take k).length ≤ 9000 := by simp; omega
                    rw [Nat.zero_add] at HT
                    go_wp2_with (at_builtin; refine wpList_app rfl _ _ rfl w _ (L0 ++ (D.drop 0).take k) rfl (hd.out.1.alloc _) (hd.out.2.alloc hd.out.2.size _) ⟨wr.heap.size, 0, none⟩ 1 1 [nth D k] rfl rfl (cell_new _ (nth D k)) (by omega) ?_; intro v9 w9 hr9 hb9)
                    have HD9 : Hid (Dst w w9 v9 (L0 ++ (D.drop 0).take (k + 1))) := ⟨by rw [HT.out, ← List.append_assoc]; exact hr9, hb9⟩
                    clear hr9 hb9 x1
                    go_roundw
                    case rel => exact ⟨k + 1, by omega, by go_num, HD9⟩
                    case measure => simp [intOf]; omega
                · as_aux_lemma =>
                    obtain rfl : k = m := by omega
                    have HR2 : Hid (BRow wr w.heap.size u0 (L0 ++ (D.drop 0).take k)) := hd.out.1
                    have HB2 : Hid (Below w.heap.size w wr) := hd.out.2
                    obtain ⟨q, hq⟩ : ∃ q, q = d - k := ⟨_, rfl⟩
                    have hq' : (d : Int) - (k : Int) = (q : Int) := by omega
                    have hq2 : q ≤ 1001 := by omega
                    rw [← hq] at EW
                    clear hq hd
                    have hl2 : (L0 ++ (D.drop 0).take k).length ≤ 100 := by simp; omega
                    generalize L0 ++ (D.drop 0).take k = L2 at *
                    go_wp2_with fail
                    go_loopw [0, 203] (fun v i wr => ∃ k : Nat, k ≤ q ∧ i = .int .i64 k ∧ Hid (Dst w wr v (L2 ++ List.replicate k 48))) (fun _ i _ => q - (intOf i).toNat)
                    case atStart => exact ⟨0, by omega, rfl, by rw [List.replicate_zero, List.append_nil]; exact HR2.out, HB2.out⟩
                    case round =>
                      obtain ⟨k, hk, rfl, hd⟩ := hrel
                      by_cases hlt : k < q
                      · as_aux_lemma =>
                          go_wp2_with (at_builtin; refine wpList_app rfl _ _ rfl w _ (L2 ++ List.replicate k 48) rfl (hd.out.1.alloc _) (hd.out.2.alloc hd.out.2.size _) ⟨wr.heap.size, 0, none⟩ 1 1 [48] rfl rfl (cell_new _ 48) (by simp; omega) ?_; intro v9 w9 hr9 hb9)
                          have HD9 : Hid (Dst w w9 v9 (L2 ++ List.replicate (k + 1) 48)) := ⟨by rw [List.replicate_succ', ← List.append_assoc]; exact hr9, hb9⟩
                          clear hr9 hb9
                          go_roundw
                          case rel => exact ⟨k + 1, by omega, by go_num, HD9⟩
                          case measure => simp [intOf]; omega
                      · as_aux_lemma =>
                          obtain rfl : k = q := by omega
                          go_wp2_with fail
                          go_meet
                          rw [EW.out]
                          exact hd.out
        · have EW := Lib.hid (show wholeL D dp = [48] by rw [wholeL, if_neg hd])
          go_wp2_with (at_builtin; refine wpList_app rfl _ _ rfl w _ L0 rfl (HR.out.alloc _) (HBl.out.alloc HBl.out.size _) ⟨wc.heap.size, 0, none⟩ 1 1 [48] rfl rfl (cell_new _ 48) (by omega) ?_; intro v3 w3 hr3 hb3)
          go_meet
          rw [EW.out]
          exact ⟨hr3, hb3⟩
    case rest =>
      obtain ⟨hr, hb⟩ := hcut
      have HR1 := Lib.hid hr
      have HB1 := Lib.hid hb
      have hl1 : (L0 ++ wholeL D dp).length ≤ 3000 := by unfold wholeL; split <;> simp <;> omega
      clear hr hb HR HBl
      generalize L0 ++ wholeL D dp = L1 at *
      go_upto_if 213 with fail
      go_cut [0] (fun s wx => Dst w wx s (L1 ++ fracF D dp p))
      case first =>
        as_aux_lemma =>
          by_cases hp0 : 0 < p
          · obtain ⟨lz, off, m, tz, ef, _, hom, e1, e2, e3, e4, hlz, htz, hoff⟩ := frac_parts D dp p hp0 hp
            have EF := Lib.hid (show L1 ++ fracF D dp p = L1 ++ [46] ++ List.replicate lz 48 ++ (D.drop off).take m ++ List.replicate tz 48 by rw [ef]; simp)
            have E1 := Lib.hid e1
            have E2 := Lib.hid e2
            have E3 := Lib.hid e3
            have E4 := Lib.hid e4
            have hm9 : m ≤ 60 := by omega
            have hoff9 : off ≤ 1000 := by omega
            clear ef e1 e2 e3 e4 hoff
            go_upto_region 69 with (at_builtin; refine wpList_app rfl _ _ rfl w _ L1 rfl (HR1.out.alloc _) (HB1.out.alloc HB1.out.size _) ⟨wc.heap.size, 0, none⟩ 1 1 [46] rfl rfl (cell_new _ 46) (by omega) ?_; intro v2 w2 hr2 hb2)
            have HR2 := Lib.hid hr2
            have HB2 := Lib.hid hb2
            clear hr2 hb2 HR1 HB1
            go_cut [26] (fun s wx => s = .int .i64 lz ∧ wx = w2)
            case first =>
              as_aux_lemma =>
                go_wp2_with fail
                all_goals (go_meet; exact ⟨congrArg _ (by have := E1.out; omega), rfl⟩)
            case rest =>
              as_aux_lemma =>
                obtain ⟨rfl, rfl⟩ := hcut
                go_upto_region 70 with fail
                go_cut [27] (fun s wx => s = .int .i64 off ∧ wx = wc)
                case first =>
                  as_aux_lemma =>
                    go_wp2_with fail
                    all_goals (go_meet; exact ⟨congrArg _ (by have := E2.out; omega), rfl⟩)
                case rest =>
                  as_aux_lemma =>
                    obtain ⟨rfl, rfl⟩ := hcut
                    go_upto_region 71 with fail
                    go_cut [28] (fun s wx => s = .int .i64 m ∧ wx = wc)
                    case first =>
                      as_aux_lemma =>
                        go_wp2_with fail
                        all_goals (go_meet; exact ⟨congrArg _ (by have := E3.out; omega), rfl⟩)
                    case rest =>
                      as_aux_lemma =>
                        obtain ⟨rfl, rfl⟩ := hcut
                        go_upto_region 72 with fail
                        go_cut [29] (fun s wx => s = .int .i64 tz ∧ wx = wc)
                        case first =>
                          as_aux_lemma =>
                            go_wp2_with fail
                            all_goals (go_meet; exact ⟨congrArg _ (by have := E4.out; omega), rfl⟩)
                        case rest =>
                          as_aux_lemma =>
                            obtain ⟨rfl, rfl⟩ := hcut
                            clear E1 E2 E3 E4
                            have hl2 : (L1 ++ [46]).length ≤ 3001 := by simp; omega
                            generalize L1 ++ [46] = L2 at *
                            go_wp2_with fail
                            go_loopw [0, 240] (fun v i wr => ∃ k : Nat, k ≤ lz ∧ i = .int .i64 k ∧ Hid (Dst w wr v (L2 ++ List.replicate k 48))) (fun _ i _ => lz - (intOf i).toNat)
                            case atStart => exact ⟨0, by omega, rfl, by rw [List.replicate_zero, List.append_nil]; exact HR2.out, HB2.out⟩
                            case round =>
                              obtain ⟨k, hk, rfl, hd⟩ := hrel
                              by_cases hlt : k < lz
                              · as_aux_lemma =>
                                  go_wp2_with (at_builtin; refine wpList_app rfl _ _ rfl w _ (L2 ++ List.replicate k 48) rfl (hd.out.1.alloc _) (hd.out.2.alloc hd.out.2.size _) ⟨wr.heap.size, 0, none⟩ 1 1 [48] rfl rfl (cell_new _ 48) (by simp; omega) ?_; intro v9 w9 hr9 hb9)
                                  have HD9 : Hid (Dst w w9 v9 (L2 ++ List.replicate (k + 1) 48)) := ⟨by rw [List.replicate_succ', ← List.append_assoc]; exact hr9, hb9⟩
                                  clear hr9 hb9
                                  go_roundw
                                  case rel => exact ⟨k + 1, by omega, by go_num, HD9⟩
                                  case measure => simp [intOf]; omega
                              · as_aux_lemma =>
                                  obtain rfl : k = lz := by omega
                                  have HR3 : Hid (BRow wr w.heap.size u0 (L2 ++ List.replicate k 48)) := hd.out.1
                                  have HB3 : Hid (Below w.heap.size w wr) := hd.out.2
                                  clear hd
                                  have hl3 : (L2 ++ List.replicate k 48).length ≤ 5000 := by simp; omega
                                  generalize L2 ++ List.replicate k 48 = L3 at *
                                  go_wp2_with fail
                                  go_loopw [0, 247, 30] (fun v i _ wr => ∃ k : Nat, k ≤ m ∧ i = .int .i64 k ∧ Hid (Dst w wr v (L3 ++ (D.drop off).take k))) (fun _ i _ _ => m - (intOf i).toNat)
                                  case atStart => exact ⟨0, by omega, rfl, by rw [List.take_zero, List.append_nil]; exact HR3.out, HB3.out⟩
                                  case round =>
                                    obtain ⟨k, hk, rfl, hd⟩ := hrel
                                    by_cases hlt : k < m
                                    · as_aux_lemma =>
                                        have x1 := (hd.out.2.cell (p := ⟨gs, off + k, none⟩) (by exact hg2)).trans (HC.out (off + k) (by omega))
                                        have HT := Lib.hid (drop_take_snoc D (o := off) (k := k) (by omega))
                                        have hlk : (L3 ++ (D.drop off).take k).length ≤ 9000 := by simp; omega
                                        go_wp2_with (at_builtin; refine wpList_app rfl _ _ rfl w _ (L3 ++ (D.drop off).take k) rfl (hd.out.1.alloc _) (hd.out.2.alloc hd.out.2.size _) ⟨wr.heap.size, 0, none⟩ 1 1 [nth D (off + k)] rfl rfl (cell_new _ (nth D (off + k))) (by omega) ?_; intro v9 w9 hr9 hb9)
                                        have HD9 : Hid (Dst w w9 v9 (L3 ++ (D.drop off).take (k + 1))) := ⟨by rw [HT.out, ← List.append_assoc]; exact hr9, hb9⟩
                                        clear hr9 hb9 x1
                                        go_roundw
                                        case rel => exact ⟨k + 1, by omega, by go_num, HD9⟩
                                        case measure => simp [intOf]; omega
                                    · as_aux_lemma =>
                                        obtain rfl : k = m := by omega
                                        have HR4 : Hid (BRow wr w.heap.size u0 (L3 ++ (D.drop off).take k)) := hd.out.1
                                        have HB4 : Hid (Below w.heap.size w wr) := hd.out.2
                                        clear hd
                                        have hl4 : (L3 ++ (D.drop off).take k).length ≤ 6000 := by simp; omega
                                        generalize L3 ++ (D.drop off).take k = L4 at *
                                        go_wp2_with fail
                                        go_loopw [0, 261] (fun v i wr => ∃ k : Nat, k ≤ tz ∧ i = .int .i64 k ∧ Hid (Dst w wr v (L4 ++ List.replicate k 48))) (fun _ i _ => tz - (intOf i).toNat)
                                        case atStart => exact ⟨0, by omega, rfl, by rw [List.replicate_zero, List.append_nil]; exact HR4.out, HB4.out⟩
                                        case round =>
                                          obtain ⟨k, hk, rfl, hd⟩ := hrel
                                          by_cases hlt : k < tz
                                          · as_aux_lemma =>
                                              go_wp2_with (at_builtin; refine wpList_app rfl _ _ rfl w _ (L4 ++ List.replicate k 48) rfl (hd.out.1.alloc _) (hd.out.2.alloc hd.out.2.size _) ⟨wr.heap.size, 0, none⟩ 1 1 [48] rfl rfl (cell_new _ 48) (by simp; omega) ?_; intro v9 w9 hr9 hb9)
                                              have HD9 : Hid (Dst w w9 v9 (L4 ++ List.replicate (k + 1) 48)) := ⟨by rw [List.replicate_succ', ← List.append_assoc]; exact hr9, hb9⟩
                                              clear hr9 hb9
                                              go_roundw
                                              case rel => exact ⟨k + 1, by omega, by go_num, HD9⟩
                                              case measure => simp [intOf]; omega
                                          · as_aux_lemma =>
                                              obtain rfl : k = tz := by omega
                                              go_wp2_with fail
                                              go_meet
                                              rw [EF.out]
                                              exact hd.out
          · have EF := Lib.hid (show fracF D dp p = [] by rw [fracF, if_neg hp0])
            have hp' : (p : Int) ≤ 0 := by omega
            go_wp2_with fail
            go_meet
            rw [EF.out, List.append_nil]
            exact ⟨HR1.out, HB1.out⟩
      case rest =>
        obtain ⟨hr, hb⟩ := hcut
        rw [← SC.out] at hr
        have HR2 := Lib.hid hr
        have HB2 := Lib.hid hb
        clear hr hb HR1 HB1
        go_wp2_with fail
        go_ret
        exact ⟨_, rfl, HR2.out, HB2.out⟩
end Go.Proofs.Ytekicbnfabpaeaa
