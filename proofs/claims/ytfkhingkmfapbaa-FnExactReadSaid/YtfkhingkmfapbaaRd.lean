/- readFloat of the package, by a contract: what is made of the text of a decimal number. Written by gen_rd.py. -/
import Derived.Test.YtfkhingkmfapbaaRdP
import Derived.Deep.DeepCutAuto
import Derived.Deep.RegionWith
import Derived.RegionTactic
import Derived.Deep.CutBlock
import Derived.WalkMore
namespace Go.Proofs.Ytfkhingkmfapbaa
open Go.RowKit

theorem lower_same (c : Nat) (h : c = 46 ∨ (48 ≤ c ∧ c ≤ 57)) (w : World) : Calls Try.prog 74 #[.int .u8 (c : Int)] w fun e w' => e = .returned (.int .u8 (c : Int)) ∧ w = w' := by
  rcases (show c = 46 ∨ c = 48 ∨ c = 49 ∨ c = 50 ∨ c = 51 ∨ c = 52 ∨ c = 53 ∨ c = 54 ∨ c = 55 ∨ c = 56 ∨ c = 57 by omega) with rfl | rfl | rfl | rfl | rfl | rfl | rfl | rfl | rfl | rfl | rfl
  all_goals
    go_enter Try.func74, Try.ntmps74
    go_wp2_with fail
    go_ret
    exact ⟨rfl, rfl⟩
theorem part_sign {T : List Nat} {p : Nat} {a b x : List Nat} (hP : Parts T p a b x) (ha : Digs a) (hb : Digs b) {k : Nat} (hk : k < a.length + 1 + b.length) : nth T (p + k) = 46 ∨ (48 ≤ nth T (p + k) ∧ nth T (p + k) ≤ 57) := by
  have hn : ∀ (l : List Nat) (i : Nat), Digs l → i < l.length → 48 ≤ nth l i ∧ nth l i ≤ 57 := fun l i hl hi => by
    have e : nth l i = l[i] := by simp [nth, List.getD_eq_getElem?_getD, hi]
    rw [e]; exact hl _ (List.getElem_mem _)
  rcases Nat.lt_trichotomy k a.length with h | h | h
  · right; rw [hP.fa k h]; exact hn a k ha h
  · left; rw [h]; exact hP.fd
  · right
    have := hP.fb (k - a.length - 1) (by omega)
    rw [show p + a.length + 1 + (k - a.length - 1) = p + k by omega] at this
    rw [this]; exact hn b _ hb (by omega)

set_option maxHeartbeats 4000000 in
set_option maxRecDepth 100000 in
theorem rd_any (T : List Nat) (p : Nat) (a b x : List Nat) (neg : Bool) (e : Int) (w : World) (hT : Bytes T) (hP : Parts T p a b x) (hp : (neg = true ∧ p = 1 ∧ nth T 0 = 45) ∨ (neg = false ∧ p = 0))
    (ha : Digs a) (hb : Digs b) (hla : a.length ≤ 400) (hlb : b.length ≤ 400) (hx : ExpIs x e) :
    Calls Try.prog 64 #[.string (bs T)] w (RdPost a b e neg T.length w) := by
  have hget := get_bs T hT
  have hsz := bs_size T
  have HP := Lib.hid hP
  obtain ⟨N, hN⟩ : ∃ N, N = T.length := ⟨_, rfl⟩
  rw [← hN] at hsz
  rw [← hN]
  have hlenN : N = p + a.length + 1 + b.length + 1 + x.length := by rw [hN]; exact hP.len
  have hp1 : p ≤ 1 := by omega
  obtain ⟨hx1, hx2⟩ := hx.len
  have hN9 : N ≤ 2000 := by omega
  have HLN := Lib.hid hlenN
  have HX := Lib.hid hx
  have HA := Lib.hid ha
  have HB := Lib.hid hb
  have hN0 : 0 < N := by omega
  have hpN : p + 2 ≤ N := by omega
  clear hT hP ha hb hx hN hlenN
  go_enter Try.func64, Try.ntmps64
  go_wp2_with fail
  apply wp_scope_straight
  go_upto_block 0 with fail
  go_cut [4, 7] (fun ng i wx => ng = .bool neg ∧ i = .int .i64 p ∧ wx = w)
  case first =>
    as_aux_lemma =>
      rcases hp with ⟨rfl, rfl, h45⟩ | ⟨rfl, rfl⟩
      · go_wp2_with fail
        go_meet
        exact ⟨rfl, rfl, rfl⟩
      · obtain ⟨c, hc, hc1⟩ : ∃ c, nth T 0 = c ∧ (c = 46 ∨ (48 ≤ c ∧ c ≤ 57)) := by
          have := part_sign HP.out HA.out HB.out (k := 0) (by omega)
          rw [Nat.zero_add] at this
          exact ⟨_, rfl, this⟩
        have t1 : ((c : Int) == 43) = false := by simp; omega
        have t2 : ((c : Int) == 45) = false := by simp; omega
        clear hc1
        go_wp2_with fail
        go_meet
        exact ⟨rfl, rfl, rfl⟩
  case rest =>
    obtain ⟨rfl, rfl, rfl⟩ := hcut
    obtain ⟨W1, hW1⟩ : ∃ W1 : World, W1 = wc := ⟨_, rfl⟩
    subst hW1
    go_upto_region 12 with fail
    go_cut [54] (fun t wx => t = .bool false ∧ wx = W1)
    case first =>
      as_aux_lemma =>
        clear hp
        obtain ⟨c, hc, hc1⟩ : ∃ c, nth T p = c ∧ (c = 46 ∨ (48 ≤ c ∧ c ≤ 57)) := ⟨_, rfl, part_sign HP.out HA.out HB.out (k := 0) (by omega)⟩
        by_cases h2 : p + 2 < N
        · by_cases h48 : c = 48
          · subst h48
            by_cases hab : a.length + 1 + b.length ≤ 1
            · exfalso
              have h3 := HP.out.fd
              rw [show a.length = 0 by omega, Nat.add_zero] at h3
              omega
            · obtain ⟨c1, hd, hd1⟩ : ∃ c, nth T (p + 1) = c ∧ (c = 46 ∨ (48 ≤ c ∧ c ≤ 57)) := ⟨_, rfl, part_sign HP.out HA.out HB.out (k := 1) (by omega)⟩
              have t1 : ((c1 : Int) == 120) = false := by simp; omega
              have HD1 := Lib.hid hd1
              clear hc1 hd1 hab
              go_wp2_with (go_at_call 74; refine (lower_same c1 HD1.out _).mono ?_; rintro r w' ⟨rfl, rfl⟩)
              go_meet
              exact ⟨rfl, rfl⟩
          · have t1 : ((c : Int) == 48) = false := by simp; omega
            clear hc1 h48
            go_wp2_with fail
            go_meet
            exact ⟨rfl, rfl⟩
        · clear hc1
          go_wp2_with fail
          go_meet
          exact ⟨rfl, rfl⟩
    case rest =>
      obtain ⟨rfl, rfl⟩ := hcut
      obtain ⟨W2, hW2⟩ : ∃ W2 : World, W2 = wc := ⟨_, rfl⟩
      subst hW2
      clear hp
      go_wp2_with fail
      apply wp_label
      go_upto_block 1 with fail
      obtain ⟨q, hq⟩ : ∃ q, q = p + a.length + 1 + b.length := ⟨_, rfl⟩
      have HQ := Lib.hid hq
      clear hq
      go_cut [2, 5, 7, 9, 13, 14, 15, 16, 17] (fun m tr i us sd sg nd nm dp wx => ∃ (M ND NM : Nat) (TR : Bool) (DP : Int), m = .int .u64 (M : Int) ∧ tr = .bool TR ∧ i = .int .i64 (q : Int) ∧ us = .bool false ∧ sd = .bool true ∧ sg = .bool (decide (0 < (a ++ b).length)) ∧ nd = .int .i64 (ND : Int) ∧ nm = .int .i64 (NM : Int) ∧ dp = .int .i64 DP ∧ Hid (RdS (a ++ b) a.length M ND NM TR DP) ∧ wx = W2)
      case first =>
        as_aux_lemma =>
          go_wp2_with fail
          go_loop [2, 5, 7, 9, 13, 14, 15, 16, 17, 18] (fun m tr i us sd sg nd nm dp _ => ∃ (M ND NM : Nat) (TR : Bool) (DP : Int) (j k : Nat) (s1 s2 : Bool), m = .int .u64 (M : Int) ∧ tr = .bool TR ∧ i = .int .i64 (j : Int) ∧ us = .bool false ∧ sd = .bool s1 ∧ sg = .bool s2 ∧ nd = .int .i64 (ND : Int) ∧ nm = .int .i64 (NM : Int) ∧ dp = .int .i64 DP ∧ k ≤ a.length + 1 + b.length ∧ Hid (j = p + k) ∧ Hid (s1 = decide (a.length < k)) ∧ Hid (s2 = decide (0 < (digsK a b k).length)) ∧ Hid (RdS (digsK a b k) (dotK a k) M ND NM TR DP)) (fun _ _ i _ _ _ _ _ _ _ => N - (intOf i).toNat)
          case atStart =>
            refine ⟨0, 0, 0, false, 0, p, 0, false, false, rfl, rfl, rfl, rfl, rfl, rfl, rfl, rfl, rfl, by omega, rfl, rfl, by show _ = _; rw [digsK_zero]; rfl, ?_⟩
            show RdS _ _ _ _ _ _ _
            have e0 : dotK a 0 = 0 := by unfold dotK; rw [if_pos (Nat.zero_le _)]
            rw [digsK_zero, e0]
            exact RdS.nil
          case round =>
            obtain ⟨M, ND, NM, TR, DP, j, k, s1, s2, rfl, rfl, rfl, rfl, rfl, rfl, rfl, rfl, rfl, hk, HJ, HS1, HS2', hst2⟩ := hrel
            have hj1 : j < N := by have h1 := HJ.out; have h2 := HLN.out; omega
            rcases (show k < a.length ∨ k = a.length ∨ (∃ m, k = a.length + 1 + m ∧ m < b.length) ∨ k = a.length + 1 + b.length by
                rcases Nat.lt_or_ge k a.length with h | h
                · exact .inl h
                · rcases Nat.eq_or_lt_of_le h with h | h
                  · exact .inr (.inl h.symm)
                  · rcases Nat.lt_or_ge k (a.length + 1 + b.length) with h' | h'
                    · exact .inr (.inr (.inl ⟨k - a.length - 1, by omega, by omega⟩))
                    · exact .inr (.inr (.inr (by omega)))) with hz | hz | ⟨m, hz, hm⟩ | hz
            · obtain ⟨c, hc, hc1, hc2⟩ : ∃ c, nth T j = c ∧ 48 ≤ c ∧ c ≤ 57 := by
                refine ⟨nth a k, by rw [HJ.out]; exact HP.out.fa k hz, ?_⟩
                have e : nth a k = a[k] := by simp [nth, List.getD_eq_getElem?_getD, hz]
                rw [e]; exact HA.out _ (List.getElem_mem _)
              have hcc : nth a k = c := by rw [← hc, HJ.out]; exact (HP.out.fa k hz).symm
              have HXs : Hid (digsK a b (k + 1) = digsK a b k ++ [c]) := by show _ = _; rw [digsK_a b hz, hcc]
              have HDt : Hid (dotK a (k + 1) = dotK a k) := by show _ = _; unfold dotK; rw [if_pos (by omega), if_pos (by omega)]
              have HS1k : Hid (decide (a.length < k) = decide (a.length < k + 1)) := by show _ = _; rw [decide_eq_false (by omega), decide_eq_false (by omega)]
              have hk2 : k < a.length + 1 + b.length := by omega
              have HXL : Hid ((digsK a b k).length ≤ 800) := by have h1 := digsK_len (a := a) (b := b) k; show _ ≤ _; omega
              clear hcc hz
              have hdot : -1 ≤ dotK a k ∧ dotK a k ≤ 400 := by unfold dotK; split <;> omega
              have HST := hst2.out
              have HED := HST.ed
              obtain ⟨y1, y2, y3, y4, y5, y6⟩ := HST.bound
              have HSTH := Lib.hid HST
              have HS2 : Hid (true = decide (0 < (digsK a b (k + 1)).length)) := by show _ = _; rw [HXs.out]; simp
              have hXX := HXL.out
              clear hst2 HST HXL
              generalize hXe : digsK a b k = X at *
              generalize hDe : dotK a k = dt at *
              clear hXe hDe
              have d0 : -2000 ≤ DP := by omega
              have d1 : DP ≤ 2000 := by omega
              clear HED hdot
              have t95 : ((c : Int) == 95) = false := by simp; omega
              have t46 : ((c : Int) == 46) = false := by simp; omega
              have u48 : (48 : Int) ≤ (c : Int) := by omega
              have u57 : (c : Int) ≤ 57 := by omega
              have HSK : Hid (s1 = decide (a.length < k + 1)) := by show _ = _; rw [HS1.out, HS1k.out]
              have HJ1 : Hid (j + 1 = p + (k + 1)) := by show _ = _; have := HJ.out; omega
              by_cases hz : c = 48 ∧ ND = 0
              · as_aux_lemma =>
                  obtain ⟨hz1, hz2⟩ := hz
                  have R : Hid (RdS (digsK a b (k + 1)) (dotK a (k + 1)) M ND NM TR (DP - 1)) := by show RdS _ _ _ _ _ _ _; rw [HXs.out, HDt.out, hz1]; exact HSTH.out.zero hz2
                  have w48 : ((c : Int) == 48) = true := by rw [hz1]; rfl
                  have w0 : ((ND : Int) == 0) = true := by rw [hz2]; rfl
                  clear hz1 hz2 y1 y2 y3 y4 y5 y6 HSTH
                  go_wp2_with fail
                  go_round
                  case rel => exact ⟨M, ND, NM, TR, DP - 1, j + 1, k + 1, s1, true, rfl, rfl, by go_num, rfl, rfl, rfl, rfl, rfl, by go_num, by omega, HJ1, HSK, HS2, R⟩
                  case measure => simp [intOf]; omega
              · by_cases hn : ND < 19
                · have y7 := y5 hn
                  obtain ⟨y8, y9⟩ := y7
                  have R : Hid (RdS (digsK a b (k + 1)) (dotK a (k + 1)) (M * 10 + (c - 48)) (ND + 1) (NM + 1) TR DP) := by show RdS _ _ _ _ _ _ _; rw [HXs.out, HDt.out]; exact HSTH.out.small (fun h => hz ⟨h.2, h.1⟩) hn (by omega) (by omega)
                  have hcn : c = 48 ∨ c ≠ 48 := by omega
                  have n19 : (NM : Int) < 19 := by omega
                  clear y1 y2 y4 y5 y6 HSTH
                  rcases hcn with hc48 | hc48
                  · as_aux_lemma =>
                      have w48 : ((c : Int) == 48) = true := by rw [hc48]; rfl
                      have w0 : ((ND : Int) == 0) = false := by simp; exact fun h => hz ⟨hc48, by omega⟩
                      clear hz hc48
                      go_wp2_with fail
                      go_round
                      case rel => exact ⟨M * 10 + (c - 48), ND + 1, NM + 1, TR, DP, j + 1, k + 1, s1, true, by congr 1; omega, rfl, by go_num, rfl, rfl, rfl, by go_num, by go_num, rfl, by omega, HJ1, HSK, HS2, R⟩
                      case measure => simp [intOf]; omega
                  · as_aux_lemma =>
                      have w48 : ((c : Int) == 48) = false := by simp; omega
                      clear hz hc48
                      go_wp2_with fail
                      go_round
                      case rel => exact ⟨M * 10 + (c - 48), ND + 1, NM + 1, TR, DP, j + 1, k + 1, s1, true, by congr 1; omega, rfl, by go_num, rfl, rfl, rfl, by go_num, by go_num, rfl, by omega, HJ1, HSK, HS2, R⟩
                      case measure => simp [intOf]; omega
                · have y7 := y6 (by omega)
                  have R : Hid (RdS (digsK a b (k + 1)) (dotK a (k + 1)) M (ND + 1) NM (TR || decide (c - 48 ≠ 0)) DP) := by show RdS _ _ _ _ _ _ _; rw [HXs.out, HDt.out]; exact HSTH.out.more (by omega) (by omega) (by omega)
                  have hcn : c = 48 ∨ c ≠ 48 := by omega
                  have n19 : ¬ (NM : Int) < 19 := by omega
                  have w0 : ((ND : Int) == 0) = false := by simp; omega
                  clear y1 y2 y4 y5 y6 HSTH hz
                  rcases hcn with hc48 | hc48
                  · as_aux_lemma =>
                      have w48 : ((c : Int) == 48) = true := by rw [hc48]; rfl
                      have R2 : Hid (RdS (digsK a b (k + 1)) (dotK a (k + 1)) M (ND + 1) NM TR DP) := by have := R.out; rw [decide_eq_false (show ¬ (c - 48 ≠ 0) by omega), Bool.or_false] at this; exact this
                      clear hc48 R
                      go_wp2_with fail
                      go_round
                      case rel => exact ⟨M, ND + 1, NM, TR, DP, j + 1, k + 1, s1, true, rfl, rfl, by go_num, rfl, rfl, rfl, by go_num, rfl, rfl, by omega, HJ1, HSK, HS2, R2⟩
                      case measure => simp [intOf]; omega
                  · as_aux_lemma =>
                      have w48 : ((c : Int) == 48) = false := by simp; omega
                      have w48n : ((c : Int) != 48) = true := by simp; omega
                      have R2 : Hid (RdS (digsK a b (k + 1)) (dotK a (k + 1)) M (ND + 1) NM true DP) := by have := R.out; rw [decide_eq_true (show c - 48 ≠ 0 by omega), Bool.or_true] at this; exact this
                      clear hc48 R
                      go_wp2_with fail
                      go_round
                      case rel => exact ⟨M, ND + 1, NM, true, DP, j + 1, k + 1, s1, true, rfl, rfl, by go_num, rfl, rfl, rfl, by go_num, rfl, rfl, by omega, HJ1, HSK, HS2, R2⟩
                      case measure => simp [intOf]; omega
            · subst hz
              as_aux_lemma =>
                have hc : nth T j = 46 := by rw [HJ.out]; exact HP.out.fd
                obtain rfl : s1 = false := by rw [HS1.out]; simp
                have HST := hst2.out
                have e0 : dotK a a.length = 0 := by unfold dotK; rw [if_pos (Nat.le_refl _)]
                have e1 : dotK a (a.length + 1) = ((digsK a b a.length).length : Int) := by rw [digsK_len_a (Nat.le_refl _)]; unfold dotK; rw [if_neg (by omega)]
                have R : Hid (RdS (digsK a b (a.length + 1)) (dotK a (a.length + 1)) M ND NM TR ND) := by show RdS _ _ _ _ _ _ _; rw [digsK_dot, e1]; exact HST.dot
                have HS2 : Hid (s2 = decide (0 < (digsK a b (a.length + 1)).length)) := by show _ = _; rw [digsK_dot]; exact HS2'.out
                have HJ1 : Hid (j + 1 = p + (a.length + 1)) := by show _ = _; have := HJ.out; omega
                clear HST e0 e1 hst2
                go_wp2_with fail
                go_round
                case rel => exact ⟨M, ND, NM, TR, ND, j + 1, a.length + 1, true, s2, rfl, rfl, by go_num, rfl, rfl, rfl, rfl, rfl, rfl, by omega, HJ1, by show _ = _; rw [decide_eq_true (by omega)], HS2, R⟩
                case measure => simp [intOf]; omega
            · obtain ⟨c, hc, hc1, hc2⟩ : ∃ c, nth T j = c ∧ 48 ≤ c ∧ c ≤ 57 := by
                refine ⟨nth b m, by rw [HJ.out, hz, ← Nat.add_assoc, ← Nat.add_assoc]; exact HP.out.fb m hm, ?_⟩
                have e : nth b m = b[m] := by simp [nth, List.getD_eq_getElem?_getD, hm]
                rw [e]; exact HB.out _ (List.getElem_mem _)
              have hcc : nth b m = c := by rw [← hc, HJ.out, hz, ← Nat.add_assoc, ← Nat.add_assoc]; exact (HP.out.fb m hm).symm
              have HXs : Hid (digsK a b (k + 1) = digsK a b k ++ [c]) := by show _ = _; rw [hz, digsK_b hm, hcc]
              have HDt : Hid (dotK a (k + 1) = dotK a k) := by show _ = _; unfold dotK; rw [if_neg (by omega), if_neg (by omega)]
              have HS1k : Hid (decide (a.length < k) = decide (a.length < k + 1)) := by show _ = _; rw [decide_eq_true (by omega), decide_eq_true (by omega)]
              have hk2 : k < a.length + 1 + b.length := by omega
              have HXL : Hid ((digsK a b k).length ≤ 800) := by have h1 := digsK_len (a := a) (b := b) k; show _ ≤ _; omega
              clear hcc hz hm
              have hdot : -1 ≤ dotK a k ∧ dotK a k ≤ 400 := by unfold dotK; split <;> omega
              have HST := hst2.out
              have HED := HST.ed
              obtain ⟨y1, y2, y3, y4, y5, y6⟩ := HST.bound
              have HSTH := Lib.hid HST
              have HS2 : Hid (true = decide (0 < (digsK a b (k + 1)).length)) := by show _ = _; rw [HXs.out]; simp
              have hXX := HXL.out
              clear hst2 HST HXL
              generalize hXe : digsK a b k = X at *
              generalize hDe : dotK a k = dt at *
              clear hXe hDe
              have d0 : -2000 ≤ DP := by omega
              have d1 : DP ≤ 2000 := by omega
              clear HED hdot
              have t95 : ((c : Int) == 95) = false := by simp; omega
              have t46 : ((c : Int) == 46) = false := by simp; omega
              have u48 : (48 : Int) ≤ (c : Int) := by omega
              have u57 : (c : Int) ≤ 57 := by omega
              have HSK : Hid (s1 = decide (a.length < k + 1)) := by show _ = _; rw [HS1.out, HS1k.out]
              have HJ1 : Hid (j + 1 = p + (k + 1)) := by show _ = _; have := HJ.out; omega
              by_cases hz : c = 48 ∧ ND = 0
              · as_aux_lemma =>
                  obtain ⟨hz1, hz2⟩ := hz
                  have R : Hid (RdS (digsK a b (k + 1)) (dotK a (k + 1)) M ND NM TR (DP - 1)) := by show RdS _ _ _ _ _ _ _; rw [HXs.out, HDt.out, hz1]; exact HSTH.out.zero hz2
                  have w48 : ((c : Int) == 48) = true := by rw [hz1]; rfl
                  have w0 : ((ND : Int) == 0) = true := by rw [hz2]; rfl
                  clear hz1 hz2 y1 y2 y3 y4 y5 y6 HSTH
                  go_wp2_with fail
                  go_round
                  case rel => exact ⟨M, ND, NM, TR, DP - 1, j + 1, k + 1, s1, true, rfl, rfl, by go_num, rfl, rfl, rfl, rfl, rfl, by go_num, by omega, HJ1, HSK, HS2, R⟩
                  case measure => simp [intOf]; omega
              · by_cases hn : ND < 19
                · have y7 := y5 hn
                  obtain ⟨y8, y9⟩ := y7
                  have R : Hid (RdS (digsK a b (k + 1)) (dotK a (k + 1)) (M * 10 + (c - 48)) (ND + 1) (NM + 1) TR DP) := by show RdS _ _ _ _ _ _ _; rw [HXs.out, HDt.out]; exact HSTH.out.small (fun h => hz ⟨h.2, h.1⟩) hn (by omega) (by omega)
                  have hcn : c = 48 ∨ c ≠ 48 := by omega
                  have n19 : (NM : Int) < 19 := by omega
                  clear y1 y2 y4 y5 y6 HSTH
                  rcases hcn with hc48 | hc48
                  · as_aux_lemma =>
                      have w48 : ((c : Int) == 48) = true := by rw [hc48]; rfl
                      have w0 : ((ND : Int) == 0) = false := by simp; exact fun h => hz ⟨hc48, by omega⟩
                      clear hz hc48
                      go_wp2_with fail
                      go_round
                      case rel => exact ⟨M * 10 + (c - 48), ND + 1, NM + 1, TR, DP, j + 1, k + 1, s1, true, by congr 1; omega, rfl, by go_num, rfl, rfl, rfl, by go_num, by go_num, rfl, by omega, HJ1, HSK, HS2, R⟩
                      case measure => simp [intOf]; omega
                  · as_aux_lemma =>
                      have w48 : ((c : Int) == 48) = false := by simp; omega
                      clear hz hc48
                      go_wp2_with fail
                      go_round
                      case rel => exact ⟨M * 10 + (c - 48), ND + 1, NM + 1, TR, DP, j + 1, k + 1, s1, true, by congr 1; omega, rfl, by go_num, rfl, rfl, rfl, by go_num, by go_num, rfl, by omega, HJ1, HSK, HS2, R⟩
                      case measure => simp [intOf]; omega
                · have y7 := y6 (by omega)
                  have R : Hid (RdS (digsK a b (k + 1)) (dotK a (k + 1)) M (ND + 1) NM (TR || decide (c - 48 ≠ 0)) DP) := by show RdS _ _ _ _ _ _ _; rw [HXs.out, HDt.out]; exact HSTH.out.more (by omega) (by omega) (by omega)
                  have hcn : c = 48 ∨ c ≠ 48 := by omega
                  have n19 : ¬ (NM : Int) < 19 := by omega
                  have w0 : ((ND : Int) == 0) = false := by simp; omega
                  clear y1 y2 y4 y5 y6 HSTH hz
                  rcases hcn with hc48 | hc48
                  · as_aux_lemma =>
                      have w48 : ((c : Int) == 48) = true := by rw [hc48]; rfl
                      have R2 : Hid (RdS (digsK a b (k + 1)) (dotK a (k + 1)) M (ND + 1) NM TR DP) := by have := R.out; rw [decide_eq_false (show ¬ (c - 48 ≠ 0) by omega), Bool.or_false] at this; exact this
                      clear hc48 R
                      go_wp2_with fail
                      go_round
                      case rel => exact ⟨M, ND + 1, NM, TR, DP, j + 1, k + 1, s1, true, rfl, rfl, by go_num, rfl, rfl, rfl, by go_num, rfl, rfl, by omega, HJ1, HSK, HS2, R2⟩
                      case measure => simp [intOf]; omega
                  · as_aux_lemma =>
                      have w48 : ((c : Int) == 48) = false := by simp; omega
                      have w48n : ((c : Int) != 48) = true := by simp; omega
                      have R2 : Hid (RdS (digsK a b (k + 1)) (dotK a (k + 1)) M (ND + 1) NM true DP) := by have := R.out; rw [decide_eq_true (show c - 48 ≠ 0 by omega), Bool.or_true] at this; exact this
                      clear hc48 R
                      go_wp2_with fail
                      go_round
                      case rel => exact ⟨M, ND + 1, NM, true, DP, j + 1, k + 1, s1, true, rfl, rfl, by go_num, rfl, rfl, rfl, by go_num, rfl, rfl, by omega, HJ1, HSK, HS2, R2⟩
                      case measure => simp [intOf]; omega
            · subst hz
              as_aux_lemma =>
                have hc : nth T j = 101 := by rw [HJ.out, ← Nat.add_assoc, ← Nat.add_assoc]; exact HP.out.fe
                have hjq : Hid (j = q) := by show _ = _; rw [HJ.out, HQ.out]; omega
                have hs1 : Hid (s1 = true) := by show _ = _; rw [HS1.out]; simp; omega
                have R : Hid (RdS (a ++ b) a.length M ND NM TR DP) := by
                  have := hst2.out
                  rw [digsK_end] at this
                  have e : dotK a (a.length + 1 + b.length) = (a.length : Int) := by unfold dotK; rw [if_neg (by omega)]
                  rw [e] at this
                  exact this
                clear hst2
                go_wp2_with fail
                go_meet
                exact ⟨M, ND, NM, TR, DP, rfl, rfl, by rw [hjq.out], rfl, by rw [hs1.out], by rw [HS2'.out, digsK_end], rfl, rfl, rfl, R, rfl⟩
      case rest =>
        obtain ⟨M, ND, NM, TR, DP, rfl, rfl, rfl, rfl, rfl, rfl, rfl, rfl, rfl, hst, rfl⟩ := hcut
        obtain ⟨W3, hW3⟩ : ∃ W3 : World, W3 = wc := ⟨_, rfl⟩
        subst hW3
        have hlX : (a ++ b).length = a.length + b.length := List.length_append
        obtain ⟨y1, y2, y3, y4, _, _⟩ := hst.out.bound
        have HED := hst.out.ed
        have d0 : -1000 ≤ DP := by omega
        have d1 : DP ≤ 1000 := by omega
        have HDB : Hid (DP = (ND : Int) - b.length) := by show _ = _; omega
        by_cases hX0 : (a ++ b).length = 0
        · as_aux_lemma =>
            have E0 : Hid (decide (0 < (a ++ b).length) = false) := by show _ = _; rw [hX0]; rfl
            rw [E0.out]
            have hp0 : ¬ 0 < (a ++ b).length := by omega
            have R : Hid (RdPost a b e neg N W3 (.returned (.tuple #[.int .u64 (M : Int), .int .i64 0, .bool neg, .bool TR, .bool false, .int .i64 (q : Int), .bool false])) W3) :=
              ⟨rfl, M, 0, TR, q, false, rfl, by rw [E0.out], fun h => absurd h hp0⟩
            clear hX0 hp0 hlX HED d0 d1
            go_wp2_with fail
            exact bodyPost_ret (by simp [results, Try.results64, go_sem]) rfl R.out
        · have E0 : Hid (decide (0 < (a ++ b).length) = true) := by show _ = _; rw [decide_eq_true (by omega)]
          rw [E0.out]
          have hqN : q < N := by have h1 := HQ.out; have h2 := HLN.out; omega
          have hq1N : q + 1 < N := by have h1 := HQ.out; have h2 := HLN.out; omega
          have hc : nth T q = 101 := by rw [HQ.out]; exact HP.out.fe
          have HFX : Hid (∀ k, k < x.length → nth T (q + 1 + k) = nth x k) := fun k hk => by rw [HQ.out]; exact HP.out.fx k hk
          have HLN2 : Hid (N = q + 1 + x.length) := by show _ = _; rw [HLN.out, HQ.out]
          clear hX0 HED hlX
          obtain ⟨E, hE1, hE2, hE3, hE4⟩ := HX.out
          obtain ⟨sl, es, hsl, hx0, he0, hNs, h45⟩ : ∃ sl : Nat, ∃ es : Int, ((sl = 0 ∧ es = 1) ∨ (sl = 1 ∧ es = -1)) ∧ (∀ k, k < E.length → nth T (q + 1 + sl + k) = nth E k) ∧ e = es * (valD E : Int) ∧ N = q + 1 + sl + E.length ∧ (sl = 1 → nth T (q + 1) = 45) := by
            rcases hE4 with ⟨rfl, rfl⟩ | ⟨rfl, rfl⟩
            · refine ⟨1, -1, .inr ⟨rfl, rfl⟩, fun k hk => ?_, by omega, by rw [HLN2.out]; simp; omega, fun _ => HFX.out 0 (by simp)⟩
              have := HFX.out (1 + k) (by simp; omega)
              rw [nth_app_at (a := [45]) (b := E) (i := 1 + k) (j := k) rfl] at this
              rw [← this, Nat.add_assoc (q + 1) 1 k]
            · refine ⟨0, 1, .inl ⟨rfl, rfl⟩, fun k hk => ?_, by omega, HLN2.out, fun h => by omega⟩
              exact HFX.out k hk
          have HX0 := Lib.hid hx0
          have HE0 := Lib.hid he0
          have HNs := Lib.hid hNs
          have H45 := Lib.hid h45
          have HEd := Lib.hid hE1
          clear hx0 he0 hNs h45 hE1 hE4 HX HFX
          have hcs : ∃ c, nth T (q + 1) = c ∧ ((sl = 1 ∧ c = 45) ∨ (sl = 0 ∧ 48 ≤ c ∧ c ≤ 57)) := by
            refine ⟨_, rfl, ?_⟩
            rcases hsl with ⟨h1, _⟩ | ⟨h1, _⟩
            · right
              have h2 := HX0.out 0 (by omega)
              rw [h1] at h2
              have e2 : nth E 0 = E[0] := by simp [nth, List.getD_eq_getElem?_getD, show 0 < E.length by omega]
              rw [Nat.add_zero, Nat.add_zero] at h2
              rw [h2, e2]
              exact ⟨h1, HEd.out _ (List.getElem_mem _)⟩
            · exact .inl ⟨h1, H45.out h1⟩
          obtain ⟨c, hcq, hcc⟩ := hcs
          go_upto_block 4 with (go_at_call 74; refine (lower_e _).mono ?_; rintro r w' ⟨rfl, rfl⟩)
          obtain ⟨q2, hq2⟩ : ∃ q2, q2 = q + 1 + sl := ⟨_, rfl⟩
          have HQ2 := Lib.hid hq2
          clear hq2
          go_cut [7, 19] (fun i s wx => i = .int .i64 q2 ∧ s = .int .i64 es ∧ wx = W3)
          case first =>
            as_aux_lemma =>
              rcases hcc with ⟨h1, h2⟩ | ⟨h1, h2, h3⟩
              · have h4 : Hid (es = -1) := by show _ = _; omega
                have h5 : Hid (q2 = q + 2) := by show _ = _; have := HQ2.out; omega
                subst h2
                clear hsl h1
                go_wp2_with fail
                go_meet
                exact ⟨by rw [h5.out]; go_num, by rw [h4.out], rfl⟩
              · have h4 : Hid (es = 1) := by show _ = _; omega
                have h5 : Hid (q2 = q + 1) := by show _ = _; have := HQ2.out; omega
                have t1 : ((c : Int) == 43) = false := by simp; omega
                have t2 : ((c : Int) == 45) = false := by simp; omega
                clear hsl h1 h2 h3
                go_wp2_with fail
                go_meet
                exact ⟨by rw [h5.out]; go_num, by rw [h4.out], rfl⟩
          case rest =>
            obtain ⟨rfl, rfl, rfl⟩ := hcut
            have hq2N : q2 < N := by have h1 := HQ2.out; have h2 := HNs.out; omega
            obtain ⟨c0, hc0, hc1, hc2⟩ : ∃ c0, nth T q2 = c0 ∧ 48 ≤ c0 ∧ c0 ≤ 57 := by
              have h2 := HX0.out 0 (by omega)
              rw [← HQ2.out, Nat.add_zero] at h2
              have e2 : nth E 0 = E[0] := by simp [nth, List.getD_eq_getElem?_getD, show 0 < E.length by omega]
              exact ⟨_, rfl, by rw [h2, e2]; exact HEd.out _ (List.getElem_mem _)⟩
            have t1 : ¬ (c0 : Int) < 48 := by omega
            have t2 : ¬ (57 : Int) < (c0 : Int) := by omega
            obtain ⟨W4, hW4⟩ : ∃ W4 : World, W4 = wc := ⟨_, rfl⟩
            subst hW4
            clear hc hcq hcc
            have hdec : decide (N ≤ q2) = false := decide_eq_false (by omega)
            go_upto_block 5 with fail
            go_cut [7, 9, 20] (fun i us s wx => i = .int .i64 N ∧ us = .bool false ∧ s = .int .i64 (valD E : Int) ∧ wx = W4)
            case first =>
              as_aux_lemma =>
                clear t1 t2 hc0 hc1 hc2
                go_wp2_with fail
                go_loop [7, 9, 20] (fun i us v => ∃ j m : Nat, i = .int .i64 j ∧ us = .bool false ∧ v = .int .i64 m ∧ Hid (∃ k, k ≤ E.length ∧ j = q2 + k ∧ m = valD (E.take k))) (fun i _ _ => N - (intOf i).toNat)
                case atStart => exact ⟨q2, 0, rfl, rfl, rfl, 0, by omega, rfl, rfl⟩
                case round =>
                  obtain ⟨j, m, rfl, rfl, rfl, hr⟩ := hrel
                  obtain ⟨k, hk, hj, hm⟩ := hr.out
                  clear hr
                  by_cases hke : k < E.length
                  · as_aux_lemma =>
                      have hjN : j < N := by have h1 := HQ2.out; have h2 := HNs.out; omega
                      obtain ⟨c, hc, hc1, hc2, hcE⟩ : ∃ c, nth T j = c ∧ 48 ≤ c ∧ c ≤ 57 ∧ c = nth E k := by
                        have h2 := HX0.out k hke
                        rw [← HQ2.out, ← hj] at h2
                        have e2 : nth E k = E[k] := by simp [nth, List.getD_eq_getElem?_getD, hke]
                        refine ⟨nth E k, h2, ?_, ?_, rfl⟩
                        · rw [e2]; exact (HEd.out _ (List.getElem_mem _)).1
                        · rw [e2]; exact (HEd.out _ (List.getElem_mem _)).2
                      have u1 : (48 : Int) ≤ (c : Int) := by omega
                      have u2 : (c : Int) ≤ 57 := by omega
                      have u3 : ((c : Int) == 95) = false := by simp; omega
                      have hm9 : m < 1000 := by
                        rw [hm]
                        have : Digs (E.take k) := fun y hy => HEd.out y (List.mem_of_mem_take hy)
                        have h1 := valD_small this (n := 3) (by simp; omega)
                        omega
                      have HR : Hid (∃ k, k ≤ E.length ∧ j + 1 = q2 + k ∧ m * 10 + (c - 48) = valD (E.take k)) := ⟨k + 1, by omega, by omega, by rw [take_snoc_nth' _ hke, valD_snoc, ← hm, hcE]; omega⟩
                      clear hj hm hcE hke hk
                      go_wp2_with fail
                      go_round
                      case rel => exact ⟨j + 1, m * 10 + (c - 48), by go_num, rfl, by congr 1; omega, HR⟩
                      case measure => simp [intOf]; omega
                  · as_aux_lemma =>
                      have hkl : k = E.length := by omega
                      have hjN : j = N := by have h1 := HQ2.out; have h2 := HNs.out; omega
                      have hmv : Hid (m = valD E) := by show _ = _; rw [hm, hkl, List.take_length]
                      have HJN := Lib.hid hjN
                      have hj2 : ¬ j < N := by omega
                      clear hj hm hkl hke hk hjN
                      go_wp2_with fail
                      go_meet
                      exact ⟨by rw [HJN.out], rfl, by rw [hmv.out], rfl⟩
            case rest =>
              obtain ⟨rfl, rfl, rfl, rfl⟩ := hcut
              as_aux_lemma =>
                have hv9 : valD E < 1000 := by have h1 := valD_small HEd.out (n := 3) hE3; omega
                have hmul : (valD E : Int) * es = e := by rw [HE0.out, Int.mul_comm]
                have hm1 : -1000 ≤ e ∧ e ≤ 1000 := by
                  rw [HE0.out]
                  rcases hsl with ⟨_, h⟩ | ⟨_, h⟩ <;> rw [h] <;> omega
                obtain ⟨hm2, hm3⟩ := hm1
                have hpos : 0 < (a ++ b).length := of_decide_eq_true E0.out
                have hdb := HDB.out
                have hem := hst.out.em
                have hen := hst.out.en
                have hek := hst.out.ek
                have het := hst.out.et
                by_cases hM0 : M = 0
                · have tM : ((M : Int) != 0) = false := by rw [hM0]; rfl
                  have R : Hid (RdPost a b e neg N wc (.returned (.tuple #[.int .u64 (M : Int), .int .i64 0, .bool neg, .bool TR, .bool false, .int .i64 (N : Int), .bool true])) wc) :=
                    ⟨rfl, M, 0, TR, N, true, rfl, E0.out.symm, fun _ => ⟨rfl, hem, het, by omega, by omega, fun h => absurd hM0 h⟩⟩
                  clear hM0 hdb hem hen hek het t1 t2 hc0 hc1 hc2 hpos hsl
                  go_wp2_with fail
                  exact bodyPost_ret (by simp [results, Try.results64, go_sem]) rfl R.out
                · have tM : ((M : Int) != 0) = true := by simp; omega
                  have R : Hid (RdPost a b e neg N wc (.returned (.tuple #[.int .u64 (M : Int), .int .i64 (DP + e - (NM : Int)), .bool neg, .bool TR, .bool false, .int .i64 (N : Int), .bool true])) wc) :=
                    ⟨rfl, M, DP + e - (NM : Int), TR, N, true, rfl, E0.out.symm, fun _ => ⟨rfl, hem, het, by omega, by omega, fun _ => by have h1 := HDB.out; rw [← hen, ← hek]; omega⟩⟩
                  clear hM0 hdb hem hen hek het t1 t2 hc0 hc1 hc2 hpos hsl
                  go_wp2_with fail
                  exact bodyPost_ret (by simp [results, Try.results64, go_sem]) rfl R.out
end Go.Proofs.Ytfkhingkmfapbaa
