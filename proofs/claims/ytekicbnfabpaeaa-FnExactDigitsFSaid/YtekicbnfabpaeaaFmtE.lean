/- fmtEFG of the package in the format e, by a contract: the text that it appends. -/
import Derived.Test.YtekicbnfabpaeaaFmtEP
namespace Go.Proofs.Ytekicbnfabpaeaa
open Go.RowKit

set_option maxHeartbeats 2000000 in
set_option maxRecDepth 100000 in
theorem fmtE_101 (neg sh : Bool) (sv : Value) (D : List Nat) (dp : Int) (p : Nat) (w : World) (hD : Reads w sv D) (h0 : 0 < D.length) (h1 : D.length ≤ 60) (hp : D.length ≤ p + 1) (hp2 : p ≤ 1000) (d1 : -1000 < dp) (d2 : dp < 1000) :
    Calls Try.prog 62 #[.slice none 0 0, .bool neg, sv, .int .i64 dp, .int .i64 D.length, .int .i64 p, .int .u8 101, .bool sh] w fun e w' => ∃ v, e = .returned v ∧ BRow w' w.heap.size v (sciL neg D p 101 (dp - 1)) ∧ Below w.heap.size w w' := by
  obtain ⟨gs, cs, rfl, hg2, hc1, hc2, hcell⟩ := hD
  have HC := Lib.hid hcell
  clear hcell
  · go_enter Try.func62, Try.ntmps62
    go_upto_if 78 with fail
    go_cut [0] (fun s wx => Dst w wx s (signL neg))
    case first =>
      as_aux_lemma =>
        cases neg
        · go_wp2_with fail
          go_meet
          exact ⟨BRow.nil _ _, Below.refl _ _⟩
        · go_wp2_with (at_builtin; refine wpList_app rfl _ _ rfl w _ [] rfl (BRow.nil _ _) ((Below.refl _ _).alloc (Nat.le_refl _) _) ⟨w.heap.size, 0, none⟩ 1 1 [45] rfl rfl (cell_new _ 45) (by decide) ?_; intro v' w' hr' hb')
          go_meet
          exact ⟨hr', hb'⟩
    case rest =>
      obtain ⟨hr, hb⟩ := hcut
      have HR := Lib.hid hr
      have HBl := Lib.hid hb
      clear hr hb
      have x0 := (HBl.out.cell (p := ⟨gs, 0, none⟩) (by exact hg2)).trans (HC.out 0 h0)
      go_upto_if 92 with (at_builtin; refine wpList_app rfl _ _ rfl w _ (signL neg) rfl (HR.out.alloc _) (HBl.out.alloc HBl.out.size _) ⟨wc.heap.size, 0, none⟩ 1 1 [nth D 0] rfl rfl (cell_new _ (nth D 0)) (by cases neg <;> decide) ?_; intro v' w' hr' hb')
      have HR1 := Lib.hid hr'
      have HB1 := Lib.hid hb'
      have hl1 : (signL neg ++ [nth D 0]).length ≤ 2 := by cases neg <;> simp [signL]
      clear hr' hb' x0 HR HBl
      generalize hL1 : signL neg ++ [nth D 0] = L1 at HR1 hl1
      have HL1 := Lib.hid hL1
      clear hL1
      go_cut [0] (fun s wx => Dst w wx s (L1 ++ fracL D p))
      case first =>
        as_aux_lemma =>
          by_cases hp0 : p = 0
          · have hp' : (p : Int) ≤ 0 := by omega
            have E := Lib.hid (show fracL D p = [] by simp [fracL, hp0])
            clear hp0
            go_wp2_with fail
            go_meet
            rw [E.out, List.append_nil]
            exact ⟨HR1.out, HB1.out⟩
          · have hp' : (0 : Int) < (p : Int) := by omega
            have E := Lib.hid (show L1 ++ fracL D p = L1 ++ [46] ++ D.drop 1 ++ List.replicate (p + 1 - D.length) 48 by rw [fracL, if_pos (by omega)]; simp)
            clear hp0
            have hmin : min (D.length : Int) ((p : Int) + 1) = (D.length : Int) := by omega
            go_upto_if 102 with (at_builtin; refine wpList_app rfl _ _ rfl w _ L1 rfl (HR1.out.alloc _) (HB1.out.alloc HB1.out.size _) ⟨w'.heap.size, 0, none⟩ 1 1 [46] rfl rfl (cell_new _ 46) (by omega) ?_; intro v2 w2 hr2 hb2)
            have HR2 := Lib.hid hr2
            have HB2 := Lib.hid hb2
            clear hr2 hb2 HR1 HB1
            go_cut [0, 20] (fun s i wx => i = .int .i64 D.length ∧ Dst w wx s (L1 ++ [46] ++ D.drop 1))
            case first =>
              by_cases hn : D.length = 1
              · have E1 := Lib.hid (show D.drop 1 = [] from List.drop_eq_nil_of_le (by omega))
                have hn' : (D.length : Int) ≤ 1 := by omega
                have EN := Lib.hid hn
                clear hn
                go_wp2_with fail
                go_meet
                refine ⟨by rw [EN.out]; rfl, ?_⟩
                rw [E1.out, List.append_nil]
                exact ⟨HR2.out, HB2.out⟩
              · have hn' : (1 : Int) < (D.length : Int) := by omega
                have x2 : ∀ j, j < (D.drop 1).length → w2.cell? ((⟨gs, 1, none⟩ : Addr).add j) = some (.int .u8 (nth (D.drop 1) j : Int)) := by
                  intro j hj
                  rw [List.length_drop] at hj
                  have := (HB2.out.cell (p := ⟨gs, 1 + j, none⟩) (by exact hg2)).trans (HC.out (1 + j) (by omega))
                  rw [show nth (D.drop 1) j = nth D (1 + j) from by simp [nth, Nat.add_comm]]
                  rw [addr_add]
                  exact this
                have X2 := Lib.hid x2
                clear hn x2
                go_wp2_with (at_builtin; refine wpList_app rfl _ _ rfl w _ (L1 ++ [46]) rfl HR2.out HB2.out ⟨gs, 1, none⟩ (D.length - 1) _ (D.drop 1) rfl (by simp) X2.out (by simp; omega) ?_; intro v3 w3 hr3 hb3)
                go_meet
                exact ⟨rfl, hr3, hb3⟩
            case rest =>
              obtain ⟨rfl, hr3, hb3⟩ := hcut
              have HR3 := Lib.hid hr3
              have HB3 := Lib.hid hb3
              clear hr3 hb3 hmin HR2 HB2
              have hl3 : (L1 ++ [46] ++ D.drop 1).length ≤ 100 := by simp; omega
              generalize L1 ++ [46] ++ D.drop 1 = L3 at *
              obtain ⟨q, hq⟩ : ∃ q, q = p + 1 - D.length := ⟨_, rfl⟩
              have hq' : (p : Int) + 1 - (D.length : Int) = (q : Int) := by omega
              have hq2 : q ≤ 1001 := by omega
              rw [← hq] at E
              clear hq
              go_wp2_with fail
              go_loopw [0, 114] (fun v i wr => ∃ k : Nat, k ≤ q ∧ i = .int .i64 k ∧ Hid (Dst w wr v (L3 ++ List.replicate k 48))) (fun _ i _ => q - (intOf i).toNat)
              case atStart => exact ⟨0, by omega, rfl, by rw [List.replicate_zero, List.append_nil]; exact HR3.out, HB3.out⟩
              case round =>
                obtain ⟨k, hk, rfl, hd⟩ := hrel
                by_cases hlt : k < q
                · go_wp2_with (at_builtin; refine wpList_app rfl _ _ rfl w _ (L3 ++ List.replicate k 48) rfl (hd.out.1.alloc _) (hd.out.2.alloc hd.out.2.size _) ⟨wr.heap.size, 0, none⟩ 1 1 [48] rfl rfl (cell_new _ 48) (by simp; omega) ?_; intro v4 w4 hr4 hb4)
                  have HD4 : Hid (Dst w w4 v4 (L3 ++ List.replicate (k + 1) 48)) := ⟨by rw [List.replicate_succ', ← List.append_assoc]; exact hr4, hb4⟩
                  clear hr4 hb4
                  go_roundw
                  case rel => exact ⟨k + 1, by omega, by go_num, HD4⟩
                  case measure => simp [intOf]; omega
                · obtain rfl : k = q := by omega
                  go_wp2_with fail
                  go_meet
                  rw [E.out]
                  exact hd.out
      case rest =>
        obtain ⟨hr3, hb3⟩ := hcut
        have HR3 := Lib.hid hr3
        have HB3 := Lib.hid hb3
        have hl3 : (L1 ++ fracL D p).length ≤ 5000 := by unfold fracL; split <;> simp <;> omega
        clear hr3 hb3 HR1 HB1
        have hne : ((D.length : Int) == 0) = false := by rw [beq_eq_false_iff_ne]; omega
        have SC : Hid (∀ L5 : List Nat, L5 = L1 ++ fracL D p ++ [101] ++ [expSign (dp - 1)] → sciL neg D p 101 (dp - 1) = L5 ++ expL (dp - 1).natAbs) := by
          intro L5 h5
          rw [h5, ← HL1.out]; rfl
        generalize L1 ++ fracL D p = L4 at *
        go_upto_if 129 with (at_builtin; refine wpList_app rfl _ _ rfl w _ L4 rfl (HR3.out.alloc _) (HB3.out.alloc HB3.out.size _) ⟨wc.heap.size, 0, none⟩ 1 1 [101] rfl rfl (cell_new _ 101) (by omega) ?_; intro v4 w4 hr4 hb4)
        have HR4 := Lib.hid hr4
        have HB4 := Lib.hid hb4
        clear hr4 hb4
        go_cut [19, 22] (fun ch x wx => ch = .int .u8 (expSign (dp - 1) : Int) ∧ x = .int .i64 ((dp - 1).natAbs : Int) ∧ wx = w4)
        case first =>
          as_aux_lemma =>
            by_cases hneg : dp - 1 < 0
            · go_wp2_with fail
              go_meet
              exact ⟨by rw [expSign, if_pos hneg]; rfl, congrArg _ (by omega), rfl⟩
            · go_wp2_with fail
              go_meet
              exact ⟨by rw [expSign, if_neg (by omega)]; rfl, congrArg _ (by omega), rfl⟩
        case rest =>
          obtain ⟨rfl, rfl, rfl⟩ := hcut
          have he : (dp - 1).natAbs ≤ 1000 := by omega
          have S5 := Lib.hid (SC.out _ rfl)
          clear SC
          have hl5 : (L4 ++ [101]).length ≤ 5001 := by simp; omega
          generalize (dp - 1).natAbs = x at *
          generalize expSign (dp - 1) = sg at *
          go_upto_region 47 with (at_builtin; refine wpList_app rfl _ _ rfl w _ (L4 ++ [101]) rfl (HR4.out.alloc _) (HB4.out.alloc HB4.out.size _) ⟨wc.heap.size, 0, none⟩ 1 1 [sg] rfl rfl (cell_new _ sg) (by omega) ?_; intro v5 w5 hr5 hb5)
          have HR5 := Lib.hid hr5
          have HB5 := Lib.hid hb5
          clear hr5 hb5
          have hl6 : (L4 ++ [101] ++ [sg]).length ≤ 5002 := by simp; omega
          generalize L4 ++ [101] ++ [sg] = L6 at *
          by_cases hx1 : x < 10
          · have E := Lib.hid (show expL x = [48, 48 + x] by rw [expL, if_pos hx1])
            go_wp2_with (at_builtin; refine wpList_app rfl _ _ rfl w _ L6 rfl (HR5.out.alloc _) (HB5.out.alloc HB5.out.size _) ⟨w5.heap.size, 0, none⟩ 2 2 [48, 48 + x] rfl rfl (cell_two _ 48 (48 + x) 48 _ rfl (by omega)) (by omega) ?_; intro v6 w6 hr6 hb6)
            go_ret
            exact ⟨_, rfl, by rw [S5.out, E.out]; exact hr6, hb6⟩
          · by_cases hx2 : x < 100
            · have E := Lib.hid (show expL x = [48 + x / 10, 48 + x % 10] by rw [expL, if_neg hx1, if_pos hx2])
              go_wp2_with (at_builtin; refine wpList_app rfl _ _ rfl w _ L6 rfl (HR5.out.alloc _) (HB5.out.alloc HB5.out.size _) ⟨w5.heap.size, 0, none⟩ 2 2 [48 + x / 10, 48 + x % 10] rfl rfl (cell_two _ (48 + x / 10) (48 + x % 10) _ _ (by omega) (by omega)) (by omega) ?_; intro v6 w6 hr6 hb6)
              go_ret
              exact ⟨_, rfl, by rw [S5.out, E.out]; exact hr6, hb6⟩
            · have E := Lib.hid (show expL x = [48 + x / 100, 48 + x / 10 % 10, 48 + x % 10] by rw [expL, if_neg hx1, if_neg hx2])
              go_wp2_with (at_builtin; refine wpList_app rfl _ _ rfl w _ L6 rfl (HR5.out.alloc _) (HB5.out.alloc HB5.out.size _) ⟨w5.heap.size, 0, none⟩ 3 3 [48 + x / 100, 48 + x / 10 % 10, 48 + x % 10] rfl rfl (cell_three _ (48 + x / 100) (48 + x / 10 % 10) (48 + x % 10) _ _ _ (by omega) (by omega) (by omega)) (by omega) ?_; intro v6 w6 hr6 hb6)
              go_ret
              exact ⟨_, rfl, by rw [S5.out, E.out]; exact hr6, hb6⟩
end Go.Proofs.Ytekicbnfabpaeaa
