/- set of the package's decimals, by a contract: what is made of the text of a decimal number. -/
import Derived.Test.YtfkhingkmfapbaaSetP
import Derived.Deep.DeepCutAuto
import Derived.Deep.RegionWith
import Derived.RegionTactic
import Derived.Deep.CutBlock
namespace Go.Proofs.Ytfkhingkmfapbaa
open Go.RowKit

theorem valD_small {l : List Nat} (h : Digs l) {n : Nat} (hn : l.length ≤ n) : valD l < 10 ^ n := by
  suffices ∀ k, ∀ l : List Nat, l.length = k → Digs l → valD l < 10 ^ k from Nat.lt_of_lt_of_le (this _ l rfl h) (Nat.pow_le_pow_right (by omega) hn)
  intro k
  induction k with
  | zero => intro l hl _; obtain rfl := List.eq_nil_of_length_eq_zero hl; simp [valD]
  | succ k ih =>
    intro l hl hd
    have e := snoc_of (m := l) (by omega)
    have h1 := ih (l.take (l.length - 1)) (by simp; omega) (fun y hy => hd y (List.mem_of_mem_take hy))
    have h2 : 48 ≤ nth l (l.length - 1) ∧ nth l (l.length - 1) ≤ 57 := by
      have e2 : nth l (l.length - 1) = l[l.length - 1] := by simp [nth, List.getD_eq_getElem?_getD, show l.length - 1 < l.length by omega]
      rw [e2]; exact hd _ (List.getElem_mem _)
    rw [e, valD_snoc, Nat.pow_succ]
    omega
theorem lower_e (w : World) : Calls Try.prog 74 #[.int .u8 101] w fun e w' => e = .returned (.int .u8 101) ∧ w = w' := by
  go_enter Try.func74, Try.ntmps74
  go_wp2_with fail
  go_ret
  exact ⟨rfl, rfl⟩

set_option maxHeartbeats 4000000 in
set_option maxRecDepth 100000 in
theorem set_any (b0 : Nat) (T : List Nat) (p : Nat) (a b x : List Nat) (neg : Bool) (e : Int) (w : World) (hT : Bytes T) (hP : Parts T p a b x) (hp : (neg = true ∧ p = 1 ∧ nth T 0 = 45) ∨ (neg = false ∧ p = 0))
    (ha : Digs a) (hb : Digs b) (hla : a.length ≤ 400) (hlb : b.length ≤ 400) (hx : ExpIs x e) (h : DecBox w b0 (List.replicate 800 0) 0 0 false false) :
    Calls Try.prog 63 #[.pointer (some ⟨b0, 0, none⟩), .string (bs T)] w (SetPost b0 a b e neg w) := by
  have hget := get_bs T hT
  have hsz := bs_size T
  have HP := Lib.hid hP
  obtain ⟨N, hN⟩ : ∃ N, N = T.length := ⟨_, rfl⟩
  rw [← hN] at hsz
  have hlenN : N = p + a.length + 1 + b.length + 1 + x.length := by rw [hN]; exact hP.len
  have hp1 : p ≤ 1 := by omega
  obtain ⟨hx1, hx2⟩ := hx.len
  have hN9 : N ≤ 2000 := by omega
  have HLN := Lib.hid hlenN
  have HX := Lib.hid hx
  have HA := Lib.hid ha
  have HB := Lib.hid hb
  have H := Lib.hid h
  have HN := Lib.hid hN
  have HT := Lib.hid hT
  have c2 := h.neg_
  have f2 := h.free 802
  have g1 := h.setNeg false
  have c3 := g1.tr_
  have f3 := g1.free 803
  have G2 := Lib.hid (g1.setTr false)
  have O2 := Lib.hid (((Only.refl b0 w).setCell 802 (.bool false)).setCell 803 (.bool false))
  have hN0 : 0 < N := by omega
  clear g1 h hT hP ha hb hx hN hlenN
  go_enter Try.func63, Try.ntmps63
  go_upto_block 0 with fail
  go_cut [5] (fun s wx => s = .int .i64 p ∧ Hid (DecBox wx b0 (List.replicate 800 0) 0 0 neg false ∧ Only b0 w wx))
  case first =>
    as_aux_lemma =>
      rcases hp with ⟨rfl, rfl, h45⟩ | ⟨rfl, rfl⟩
      · have g2 := G2.out.neg_
        have k2 := G2.out.free 802
        have G3 := Lib.hid (G2.out.setNeg true)
        have O3 := Lib.hid (O2.out.setCell 802 (.bool true))
        clear c2 c3 f2 f3
        go_wp2_with fail
        go_meet
        exact ⟨rfl, G3.out, O3.out⟩
      · obtain ⟨c, hc, hc1⟩ : ∃ c, nth T 0 = c ∧ (c = 46 ∨ (48 ≤ c ∧ c ≤ 57)) := by
          refine ⟨_, rfl, ?_⟩
          by_cases h0 : a.length = 0
          · left; have := HP.out.fd; rw [h0] at this; exact this
          · right
            have h1 := HP.out.fa 0 (by omega)
            rw [Nat.zero_add] at h1
            rw [h1]
            have e : nth a 0 = a[0] := by simp [nth, List.getD_eq_getElem?_getD, show 0 < a.length by omega]
            rw [e]; exact HA.out _ (List.getElem_mem _)
        have t1 : ((c : Int) == 43) = false := by simp; omega
        have t2 : ((c : Int) == 45) = false := by simp; omega
        clear c2 c3 f2 f3 hc1
        go_wp2_with fail
        go_meet
        exact ⟨rfl, G2.out, O2.out⟩
  case rest =>
    obtain ⟨rfl, hst⟩ := hcut
    obtain ⟨W1, hW1⟩ : ∃ W1 : World, W1 = wc := ⟨_, rfl⟩
    subst hW1
    clear c2 c3 f2 f3 G2 O2 H
    go_upto_block 1 with fail
    obtain ⟨q, hq⟩ : ∃ q, q = p + a.length + 1 + b.length := ⟨_, rfl⟩
    have HQ := Lib.hid hq
    clear hq
    go_cut [5, 6, 7] (fun i sd sg wx => i = .int .i64 q ∧ sd = .bool true ∧ sg = .bool (decide (0 < (a ++ b).length)) ∧ Hid (SetSt w wx b0 (a ++ b) a.length neg))
    case first =>
      as_aux_lemma =>
        go_wp2_with fail
        go_loopw [5, 6, 7] (fun i sd sg wr => ∃ j k : Nat, ∃ s1 s2 : Bool, i = .int .i64 j ∧ sd = .bool s1 ∧ sg = .bool s2 ∧ k ≤ a.length + 1 + b.length ∧ Hid (j = p + k) ∧ Hid (s1 = decide (a.length < k)) ∧ Hid (s2 = decide (0 < (digsK a b k).length)) ∧ Hid (SetSt w wr b0 (digsK a b k) (dotK a k) neg)) (fun i _ _ _ => N - (intOf i).toNat)
        case atStart =>
          refine ⟨p, 0, false, false, rfl, rfl, rfl, by omega, rfl, rfl, by show _ = _; rw [digsK_zero]; rfl, ?_⟩
          show SetSt _ _ _ _ _ _
          rw [digsK_zero]
          refine ⟨List.replicate 800 0, ?_, rfl, hst.out.2⟩
          have e0 : dotK a 0 - ((([] : List Nat).length : Int) - ((headL []).length : Nat)) = 0 := by unfold dotK; rw [if_pos (Nat.zero_le _)]; rfl
          rw [e0]
          exact hst.out.1
        case round =>
          obtain ⟨j, k, s1, s2, rfl, rfl, rfl, hk, HJ, HS1, HS2', hst2⟩ := hrel
          have hj1 : j < N := by have h1 := HJ.out; have h2 := HLN.out; omega
          rcases (show k < a.length ∨ k = a.length ∨ (∃ m, k = a.length + 1 + m ∧ m < b.length) ∨ k = a.length + 1 + b.length by
              rcases Nat.lt_or_ge k a.length with h | h
              · exact .inl h
              · rcases Nat.eq_or_lt_of_le h with h | h
                · exact .inr (.inl h.symm)
                · rcases Nat.lt_or_ge k (a.length + 1 + b.length) with h' | h'
                  · exact .inr (.inr (.inl ⟨k - a.length - 1, by omega, by omega⟩))
                  · exact .inr (.inr (.inr (by omega)))) with hz | hz | ⟨m, hz, hm⟩ | hz
          · obtain ⟨c, hc, hc1, hc2⟩ : ∃ c, nth T j = c ∧ 48 ≤ c ∧ c ≤ 57 := by
              refine ⟨nth a k, by rw [HJ.out]; exact HP.out.fa k hz, ?_⟩
              have e : nth a k = a[k] := by simp [nth, List.getD_eq_getElem?_getD, hz]
              rw [e]; exact HA.out _ (List.getElem_mem _)
            have hcc : nth a k = c := by rw [← hc, HJ.out]; exact (HP.out.fa k hz).symm
            have HXs : Hid (digsK a b (k + 1) = digsK a b k ++ [c]) := by show _ = _; rw [digsK_a b hz, hcc]
            have HXL : Hid ((digsK a b k).length < 800) := by show _ < _; rw [digsK_len_a (by omega)]; omega
            have HDt : Hid (dotK a (k + 1) = dotK a k) := by show _ = _; unfold dotK; rw [if_pos (by omega), if_pos (by omega)]
            have HS1k : Hid (decide (a.length < k) = decide (a.length < k + 1)) := by show _ = _; rw [decide_eq_false (by omega), decide_eq_false (by omega)]
            have hk2 : k < a.length + 1 + b.length := by omega
            clear hcc hz
            obtain ⟨D, hd, ht, ho⟩ := hst2.out
            have m0 := hd.nd_
            have m1 := hd.dp_
            have e1 := hd.free 801
            have e0 := hd.free 800
            have HD := Lib.hid hd
            have HTk := Lib.hid ht
            have HO := Lib.hid ho
            have hn9 : (headL (digsK a b k)).length < 800 := by have h1 := headL_le (digsK a b k); have h2 := HXL.out; omega
            have hXb : (digsK a b k).length ≤ 800 := by have h1 := digsK_len (a := a) (b := b) k; omega
            have hdot : -1 ≤ dotK a k ∧ dotK a k ≤ 400 := by unfold dotK; split <;> omega
            have hhl := headL_le (digsK a b k)
            clear hd ht ho
            generalize hXe : digsK a b k = X at *
            generalize dotK a k = dt at *
            clear hXe
            have t95 : ((c : Int) == 95) = false := by simp; omega
            have t46 : ((c : Int) == 46) = false := by simp; omega
            have u48 : (48 : Int) ≤ (c : Int) := by omega
            have u57 : (c : Int) ≤ 57 := by omega
            have HRelz : Hid (c = 48 → (headL X).length = 0 → SetSt w (wr.setCell ⟨b0, 801, none⟩ (.int .i64 (dt - ((X.length : Int) - ((headL X).length : Nat)) - 1))) b0 (digsK a b (k + 1)) dt neg) := fun h1 h2 => by
              rw [HXs.out, h1]; exact setSt_zero HD.out HO.out h2
            have HReld : Hid (¬ ((headL X).length = 0 ∧ c = 48) → SetSt w ((wr.setCell ⟨b0, (headL X).length, none⟩ (.int .u8 (c : Int))).setCell ⟨b0, 800, none⟩ (.int .i64 (((headL X).length : Nat) + 1))) b0 (digsK a b (k + 1)) dt neg) := fun h1 => by
              rw [HXs.out]; exact setSt_digit HD.out HTk.out HO.out h1 hn9 (by omega)
            have HS2 : Hid (true = decide (0 < (digsK a b (k + 1)).length)) := by show _ = _; rw [HXs.out]; simp
            by_cases hz : c = 48 ∧ (headL X).length = 0
            · as_aux_lemma =>
                obtain ⟨hz1, hz2⟩ := hz
                have R := Lib.hid (HRelz.out hz1 hz2)
                have w48 : ((c : Int) == 48) = true := by rw [hz1]; rfl
                have w0 : ((((headL X).length : Nat) : Int) == 0) = true := by rw [hz2]; rfl
                have hfirst : Hid (dotK a (k + 1) = dt) := HDt
                clear hz1 hz2 HRelz HReld
                go_wp2_with fail
                go_roundw
                case rel => exact ⟨j + 1, k + 1, s1, true, by go_num, rfl, rfl, by omega, by show _ = _; have := HJ.out; omega, by show _ = _; rw [HS1.out, HS1k.out], HS2, by show SetSt _ _ _ _ _ _; rw [hfirst.out]; exact R.out⟩
                case measure => simp [intOf]; omega
            · as_aux_lemma =>
                have hz' : ¬ ((headL X).length = 0 ∧ c = 48) := fun h => hz ⟨h.2, h.1⟩
                have R := Lib.hid (HReld.out hz')
                have d1 := HD.out.set (i := (headL X).length) (c := c) hn9 (by omega)
                have m2 := d1.nd_
                have e2 := d1.free 800
                have m3 := HD.out.at_ (i := (headL X).length) hn9
                have e3 := HD.out.free (headL X).length
                have hfirst : Hid (dotK a (k + 1) = dt) := HDt
                have hcn : c = 48 ∨ c ≠ 48 := by omega
                clear d1 HRelz HReld
                rcases hcn with hc48 | hc48
                · have w48 : ((c : Int) == 48) = true := by rw [hc48]; rfl
                  have w0 : ((((headL X).length : Nat) : Int) == 0) = false := by simp; exact fun h => hz ⟨hc48, by rw [h]; rfl⟩
                  clear hz hz' hc48
                  generalize hXn : (headL X).length = nd at *
                  clear hXn
                  go_upto_region 25 with fail
                  go_region
                  go_wp2_with fail
                  go_roundw
                  case rel => exact ⟨j + 1, k + 1, s1, true, by go_num, rfl, rfl, by omega, by show _ = _; have := HJ.out; omega, by show _ = _; rw [HS1.out, HS1k.out], HS2, by show SetSt _ _ _ _ _ _; rw [hfirst.out]; exact R.out.drew⟩
                  case measure => simp [intOf]; omega
                · have w48 : ((c : Int) == 48) = false := by simp; omega
                  clear hz hz' hc48
                  generalize hXn : (headL X).length = nd at *
                  clear hXn
                  go_upto_region 25 with fail
                  go_region
                  go_wp2_with fail
                  go_roundw
                  case rel => exact ⟨j + 1, k + 1, s1, true, by go_num, rfl, rfl, by omega, by show _ = _; have := HJ.out; omega, by show _ = _; rw [HS1.out, HS1k.out], HS2, by show SetSt _ _ _ _ _ _; rw [hfirst.out]; exact R.out.drew⟩
                  case measure => simp [intOf]; omega
          · subst hz
            as_aux_lemma =>
              have hc : nth T j = 46 := by rw [HJ.out]; exact HP.out.fd
              obtain rfl : s1 = false := by rw [HS1.out]; simp
              obtain ⟨D, hd, ht, ho⟩ := hst2.out
              have m0 := hd.nd_
              have m1 := hd.dp_
              have e1 := hd.free 801
              have e0 : dotK a a.length = 0 := by unfold dotK; rw [if_pos (Nat.le_refl _)]
              rw [e0] at hd
              have R := Lib.hid (setSt_dot hd ht ho)
              have HDl : Hid ((digsK a b a.length).length = a.length) := digsK_len_a (Nat.le_refl _)
              have hhl := headL_le (digsK a b a.length)
              clear hd ht ho e0
              generalize hXn : (headL (digsK a b a.length)).length = nd at *
              clear hXn
              go_wp2_with fail
              go_roundw
              case rel => exact ⟨j + 1, a.length + 1, true, s2, by go_num, rfl, rfl, by omega, by show _ = _; have := HJ.out; omega, by show _ = _; rw [decide_eq_true (by omega)], by show _ = _; rw [digsK_dot]; exact HS2'.out, by
                show SetSt _ _ _ _ _ _
                rw [digsK_dot]
                have e : dotK a (a.length + 1) = ((digsK a b a.length).length : Int) := by rw [HDl.out]; unfold dotK; rw [if_neg (by omega)]
                rw [e]; exact R.out⟩
              case measure => simp [intOf]; omega
          · obtain ⟨c, hc, hc1, hc2⟩ : ∃ c, nth T j = c ∧ 48 ≤ c ∧ c ≤ 57 := by
              refine ⟨nth b m, by rw [HJ.out, hz, ← Nat.add_assoc, ← Nat.add_assoc]; exact HP.out.fb m hm, ?_⟩
              have e : nth b m = b[m] := by simp [nth, List.getD_eq_getElem?_getD, hm]
              rw [e]; exact HB.out _ (List.getElem_mem _)
            have hcc : nth b m = c := by rw [← hc, HJ.out, hz, ← Nat.add_assoc, ← Nat.add_assoc]; exact (HP.out.fb m hm).symm
            have HXs : Hid (digsK a b (k + 1) = digsK a b k ++ [c]) := by show _ = _; rw [hz, digsK_b hm, hcc]
            have HXL : Hid ((digsK a b k).length < 800) := by show _ < _; rw [hz, digsK_len_b (by omega)]; omega
            have HDt : Hid (dotK a (k + 1) = dotK a k) := by show _ = _; unfold dotK; rw [if_neg (by omega), if_neg (by omega)]
            have HS1k : Hid (decide (a.length < k) = decide (a.length < k + 1)) := by show _ = _; rw [decide_eq_true (by omega), decide_eq_true (by omega)]
            have hk2 : k < a.length + 1 + b.length := by omega
            clear hcc hz hm
            obtain ⟨D, hd, ht, ho⟩ := hst2.out
            have m0 := hd.nd_
            have m1 := hd.dp_
            have e1 := hd.free 801
            have e0 := hd.free 800
            have HD := Lib.hid hd
            have HTk := Lib.hid ht
            have HO := Lib.hid ho
            have hn9 : (headL (digsK a b k)).length < 800 := by have h1 := headL_le (digsK a b k); have h2 := HXL.out; omega
            have hXb : (digsK a b k).length ≤ 800 := by have h1 := digsK_len (a := a) (b := b) k; omega
            have hdot : -1 ≤ dotK a k ∧ dotK a k ≤ 400 := by unfold dotK; split <;> omega
            have hhl := headL_le (digsK a b k)
            clear hd ht ho
            generalize hXe : digsK a b k = X at *
            generalize dotK a k = dt at *
            clear hXe
            have t95 : ((c : Int) == 95) = false := by simp; omega
            have t46 : ((c : Int) == 46) = false := by simp; omega
            have u48 : (48 : Int) ≤ (c : Int) := by omega
            have u57 : (c : Int) ≤ 57 := by omega
            have HRelz : Hid (c = 48 → (headL X).length = 0 → SetSt w (wr.setCell ⟨b0, 801, none⟩ (.int .i64 (dt - ((X.length : Int) - ((headL X).length : Nat)) - 1))) b0 (digsK a b (k + 1)) dt neg) := fun h1 h2 => by
              rw [HXs.out, h1]; exact setSt_zero HD.out HO.out h2
            have HReld : Hid (¬ ((headL X).length = 0 ∧ c = 48) → SetSt w ((wr.setCell ⟨b0, (headL X).length, none⟩ (.int .u8 (c : Int))).setCell ⟨b0, 800, none⟩ (.int .i64 (((headL X).length : Nat) + 1))) b0 (digsK a b (k + 1)) dt neg) := fun h1 => by
              rw [HXs.out]; exact setSt_digit HD.out HTk.out HO.out h1 hn9 (by omega)
            have HS2 : Hid (true = decide (0 < (digsK a b (k + 1)).length)) := by show _ = _; rw [HXs.out]; simp
            by_cases hz : c = 48 ∧ (headL X).length = 0
            · as_aux_lemma =>
                obtain ⟨hz1, hz2⟩ := hz
                have R := Lib.hid (HRelz.out hz1 hz2)
                have w48 : ((c : Int) == 48) = true := by rw [hz1]; rfl
                have w0 : ((((headL X).length : Nat) : Int) == 0) = true := by rw [hz2]; rfl
                have hfirst : Hid (dotK a (k + 1) = dt) := HDt
                clear hz1 hz2 HRelz HReld
                go_wp2_with fail
                go_roundw
                case rel => exact ⟨j + 1, k + 1, s1, true, by go_num, rfl, rfl, by omega, by show _ = _; have := HJ.out; omega, by show _ = _; rw [HS1.out, HS1k.out], HS2, by show SetSt _ _ _ _ _ _; rw [hfirst.out]; exact R.out⟩
                case measure => simp [intOf]; omega
            · as_aux_lemma =>
                have hz' : ¬ ((headL X).length = 0 ∧ c = 48) := fun h => hz ⟨h.2, h.1⟩
                have R := Lib.hid (HReld.out hz')
                have d1 := HD.out.set (i := (headL X).length) (c := c) hn9 (by omega)
                have m2 := d1.nd_
                have e2 := d1.free 800
                have m3 := HD.out.at_ (i := (headL X).length) hn9
                have e3 := HD.out.free (headL X).length
                have hfirst : Hid (dotK a (k + 1) = dt) := HDt
                have hcn : c = 48 ∨ c ≠ 48 := by omega
                clear d1 HRelz HReld
                rcases hcn with hc48 | hc48
                · have w48 : ((c : Int) == 48) = true := by rw [hc48]; rfl
                  have w0 : ((((headL X).length : Nat) : Int) == 0) = false := by simp; exact fun h => hz ⟨hc48, by rw [h]; rfl⟩
                  clear hz hz' hc48
                  generalize hXn : (headL X).length = nd at *
                  clear hXn
                  go_upto_region 25 with fail
                  go_region
                  go_wp2_with fail
                  go_roundw
                  case rel => exact ⟨j + 1, k + 1, s1, true, by go_num, rfl, rfl, by omega, by show _ = _; have := HJ.out; omega, by show _ = _; rw [HS1.out, HS1k.out], HS2, by show SetSt _ _ _ _ _ _; rw [hfirst.out]; exact R.out.drew⟩
                  case measure => simp [intOf]; omega
                · have w48 : ((c : Int) == 48) = false := by simp; omega
                  clear hz hz' hc48
                  generalize hXn : (headL X).length = nd at *
                  clear hXn
                  go_upto_region 25 with fail
                  go_region
                  go_wp2_with fail
                  go_roundw
                  case rel => exact ⟨j + 1, k + 1, s1, true, by go_num, rfl, rfl, by omega, by show _ = _; have := HJ.out; omega, by show _ = _; rw [HS1.out, HS1k.out], HS2, by show SetSt _ _ _ _ _ _; rw [hfirst.out]; exact R.out.drew⟩
                  case measure => simp [intOf]; omega
          · subst hz
            as_aux_lemma =>
              have hc : nth T j = 101 := by rw [HJ.out, ← Nat.add_assoc, ← Nat.add_assoc]; exact HP.out.fe
              have hjq : Hid (j = q) := by show _ = _; rw [HJ.out, HQ.out]; omega
              have hs1 : Hid (s1 = true) := by show _ = _; rw [HS1.out]; simp; omega
              go_wp2_with fail
              go_meet
              refine ⟨by rw [hjq.out], by rw [hs1.out], by rw [HS2'.out, digsK_end], ?_⟩
              have := hst2.out
              rw [digsK_end] at this
              have e : dotK a (a.length + 1 + b.length) = (a.length : Int) := by unfold dotK; rw [if_neg (by omega)]
              rw [e] at this
              exact this
    case rest =>
      obtain ⟨rfl, rfl, rfl, hst3⟩ := hcut
      obtain ⟨W2, hW2⟩ : ∃ W2 : World, W2 = wc := ⟨_, rfl⟩
      subst hW2
      clear hst
      have hlX : (a ++ b).length ≤ 800 := by simp; omega
      have hlX1 : a.length ≤ (a ++ b).length := by simp
      have HPost : Hid (SetPost b0 a b e neg w = SetPost b0 a b e neg w) := rfl
      clear HPost
      by_cases hX0 : (a ++ b).length = 0
      · as_aux_lemma =>
          have E0 : Hid (decide (0 < (a ++ b).length) = false) := by show _ = _; rw [hX0]; rfl
          have hla0 : a.length = 0 := by omega
          rw [E0.out]
          have R : Hid (SetPost b0 a b e neg w (.returned (.bool false)) W2) := by
            obtain ⟨D, hd, ht, ho⟩ := hst3.out
            have hh := headL_le (a ++ b)
            exact ⟨by rw [E0.out], D, _, hd, ht, ho, by omega, by omega, fun h => absurd h (by omega)⟩
          clear hX0 hla0
          go_wp2_with fail
          go_ret
          exact R.out
      · have E0 : Hid (decide (0 < (a ++ b).length) = true) := by show _ = _; rw [decide_eq_true (by omega)]
        rw [E0.out]
        have hqN : q < N := by have h1 := HQ.out; have h2 := HLN.out; omega
        have hq1N : q + 1 < N := by have h1 := HQ.out; have h2 := HLN.out; omega
        have hc : nth T q = 101 := by rw [HQ.out]; exact HP.out.fe
        have HFX : Hid (∀ k, k < x.length → nth T (q + 1 + k) = nth x k) := fun k hk => by rw [HQ.out]; exact HP.out.fx k hk
        have HLN2 : Hid (N = q + 1 + x.length) := by show _ = _; rw [HLN.out, HQ.out]
        clear hX0
        obtain ⟨E, hE1, hE2, hE3, hE4⟩ := HX.out
        obtain ⟨sl, es, hsl, hx0, he0, hNs, h45⟩ : ∃ sl : Nat, ∃ es : Int, ((sl = 0 ∧ es = 1) ∨ (sl = 1 ∧ es = -1)) ∧ (∀ k, k < E.length → nth T (q + 1 + sl + k) = nth E k) ∧ e = es * (valD E : Int) ∧ N = q + 1 + sl + E.length ∧ (sl = 1 → nth T (q + 1) = 45) := by
          rcases hE4 with ⟨rfl, rfl⟩ | ⟨rfl, rfl⟩
          · refine ⟨1, -1, .inr ⟨rfl, rfl⟩, fun k hk => ?_, by omega, by rw [HLN2.out]; simp; omega, fun _ => HFX.out 0 (by simp)⟩
            have := HFX.out (1 + k) (by simp; omega)
            rw [nth_app_at (a := [45]) (b := E) (i := 1 + k) (j := k) rfl] at this
            rw [← this, Nat.add_assoc (q + 1) 1 k]
          · refine ⟨0, 1, .inl ⟨rfl, rfl⟩, fun k hk => ?_, by omega, HLN2.out, fun h => by omega⟩
            exact HFX.out k hk
        have HX0 := Lib.hid hx0
        have HE0 := Lib.hid he0
        have HNs := Lib.hid hNs
        have H45 := Lib.hid h45
        have HEd := Lib.hid hE1
        clear hx0 he0 hNs h45 hE1 hE4 HX HFX
        have hcs : ∃ c, nth T (q + 1) = c ∧ ((sl = 1 ∧ c = 45) ∨ (sl = 0 ∧ 48 ≤ c ∧ c ≤ 57)) := by
          refine ⟨_, rfl, ?_⟩
          rcases hsl with ⟨h1, _⟩ | ⟨h1, _⟩
          · right
            have h2 := HX0.out 0 (by omega)
            rw [h1] at h2
            have e2 : nth E 0 = E[0] := by simp [nth, List.getD_eq_getElem?_getD, show 0 < E.length by omega]
            rw [Nat.add_zero, Nat.add_zero] at h2
            rw [h2, e2]
            exact ⟨h1, HEd.out _ (List.getElem_mem _)⟩
          · exact .inl ⟨h1, H45.out h1⟩
        obtain ⟨c, hcq, hcc⟩ := hcs
        go_upto_block 4 with (go_at_call 74; refine (lower_e _).mono ?_; rintro r w' ⟨rfl, rfl⟩)
        obtain ⟨q2, hq2⟩ : ∃ q2, q2 = q + 1 + sl := ⟨_, rfl⟩
        have HQ2 := Lib.hid hq2
        clear hq2
        go_cut [5, 8] (fun i s wx => i = .int .i64 q2 ∧ s = .int .i64 es ∧ wx = W2)
        case first =>
          as_aux_lemma =>
            rcases hcc with ⟨h1, h2⟩ | ⟨h1, h2, h3⟩
            · have h4 : Hid (es = -1) := by show _ = _; omega
              have h5 : Hid (q2 = q + 2) := by show _ = _; have := HQ2.out; omega
              subst h2
              clear hsl h1
              go_wp2_with fail
              go_meet
              exact ⟨by rw [h5.out]; go_num, by rw [h4.out], rfl⟩
            · have h4 : Hid (es = 1) := by show _ = _; omega
              have h5 : Hid (q2 = q + 1) := by show _ = _; have := HQ2.out; omega
              have t1 : ((c : Int) == 43) = false := by simp; omega
              have t2 : ((c : Int) == 45) = false := by simp; omega
              clear hsl h1 h2 h3
              go_wp2_with fail
              go_meet
              exact ⟨by rw [h5.out]; go_num, by rw [h4.out], rfl⟩
        case rest =>
          obtain ⟨rfl, rfl, rfl⟩ := hcut
          have hq2N : q2 < N := by have h1 := HQ2.out; have h2 := HNs.out; omega
          obtain ⟨c0, hc0, hc1, hc2⟩ : ∃ c0, nth T q2 = c0 ∧ 48 ≤ c0 ∧ c0 ≤ 57 := by
            have h2 := HX0.out 0 (by omega)
            rw [← HQ2.out, Nat.add_zero] at h2
            have e2 : nth E 0 = E[0] := by simp [nth, List.getD_eq_getElem?_getD, show 0 < E.length by omega]
            exact ⟨_, rfl, by rw [h2, e2]; exact HEd.out _ (List.getElem_mem _)⟩
          have t1 : ¬ (c0 : Int) < 48 := by omega
          have t2 : ¬ (57 : Int) < (c0 : Int) := by omega
          obtain ⟨W3, hW3⟩ : ∃ W3 : World, W3 = wc := ⟨_, rfl⟩
          subst hW3
          clear hc hcq hcc
          have hdec : decide (N ≤ q2) = false := decide_eq_false (by omega)
          go_upto_block 5 with fail
          go_cut [5, 9] (fun i s wx => i = .int .i64 N ∧ s = .int .i64 (valD E : Int) ∧ wx = W3)
          case first =>
            as_aux_lemma =>
              clear t1 t2 hc0 hc1 hc2
              go_wp2_with fail
              go_loop [5, 9] (fun i v => ∃ j m : Nat, i = .int .i64 j ∧ v = .int .i64 m ∧ Hid (∃ k, k ≤ E.length ∧ j = q2 + k ∧ m = valD (E.take k))) (fun i _ => N - (intOf i).toNat)
              case atStart => exact ⟨q2, 0, rfl, rfl, 0, by omega, rfl, rfl⟩
              case round =>
                obtain ⟨j, m, rfl, rfl, hr⟩ := hrel
                obtain ⟨k, hk, hj, hm⟩ := hr.out
                clear hr
                by_cases hke : k < E.length
                · as_aux_lemma =>
                    have hjN : j < N := by have h1 := HQ2.out; have h2 := HNs.out; omega
                    obtain ⟨c, hc, hc1, hc2, hcE⟩ : ∃ c, nth T j = c ∧ 48 ≤ c ∧ c ≤ 57 ∧ c = nth E k := by
                      have h2 := HX0.out k hke
                      rw [← HQ2.out, ← hj] at h2
                      have e2 : nth E k = E[k] := by simp [nth, List.getD_eq_getElem?_getD, hke]
                      refine ⟨nth E k, h2, ?_, ?_, rfl⟩
                      · rw [e2]; exact (HEd.out _ (List.getElem_mem _)).1
                      · rw [e2]; exact (HEd.out _ (List.getElem_mem _)).2
                    have u1 : (48 : Int) ≤ (c : Int) := by omega
                    have u2 : (c : Int) ≤ 57 := by omega
                    have u3 : ((c : Int) == 95) = false := by simp; omega
                    have hm9 : m < 1000 := by
                      rw [hm]
                      have : Digs (E.take k) := fun y hy => HEd.out y (List.mem_of_mem_take hy)
                      have h1 := valD_small this (n := 3) (by simp; omega)
                      omega
                    have HR : Hid (∃ k, k ≤ E.length ∧ j + 1 = q2 + k ∧ m * 10 + (c - 48) = valD (E.take k)) := ⟨k + 1, by omega, by omega, by rw [take_snoc_nth' _ hke, valD_snoc, ← hm, hcE]; omega⟩
                    clear hj hm hcE hke hk
                    go_wp2_with fail
                    go_round
                    case rel => exact ⟨j + 1, m * 10 + (c - 48), by go_num, by congr 1; omega, HR⟩
                    case measure => simp [intOf]; omega
                · as_aux_lemma =>
                    have hkl : k = E.length := by omega
                    have hjN : j = N := by have h1 := HQ2.out; have h2 := HNs.out; omega
                    have hmv : Hid (m = valD E) := by show _ = _; rw [hm, hkl, List.take_length]
                    have HJN := Lib.hid hjN
                    have hj2 : ¬ j < N := by omega
                    clear hj hm hkl hke hk hjN
                    go_wp2_with fail
                    go_meet
                    exact ⟨by rw [HJN.out], by rw [hmv.out], rfl⟩
          case rest =>
            obtain ⟨rfl, rfl, rfl⟩ := hcut
            as_aux_lemma =>
              obtain ⟨D, hd, ht, ho⟩ := hst3.out
              have hh := headL_le (a ++ b)
              have m1 := hd.dp_
              have e1 := hd.free 801
              have HE := Lib.hid E0.out
              have hv9 : valD E < 1000 := by have h1 := valD_small HEd.out (n := 3) hE3; omega
              have hmul : (valD E : Int) * es = e := by rw [HE0.out, Int.mul_comm]
              have hm1 : -1000 ≤ e ∧ e ≤ 1000 := by
                rw [HE0.out]
                rcases hsl with ⟨_, h⟩ | ⟨_, h⟩ <;> rw [h] <;> omega
              have d1 := hd.setDp ((a.length : Int) - (((a ++ b).length : Int) - ((headL (a ++ b)).length : Nat)) + e)
              have hab : (a ++ b).length = a.length + b.length := List.length_append
              have R : Hid (SetPost b0 a b e neg w (.returned (.bool true)) (wc.setCell ⟨b0, 801, none⟩ (.int .i64 ((a.length : Int) - (((a ++ b).length : Int) - ((headL (a ++ b)).length : Nat)) + e)))) :=
                ⟨by rw [E0.out], D, _, d1, ht, ho.setCell _ _, by omega, by omega, fun _ => rfl⟩
              obtain ⟨hm2, hm3⟩ := hm1
              have hdp1 : -1500 ≤ (a.length : Int) - (((a ++ b).length : Int) - ((headL (a ++ b)).length : Nat)) := by omega
              clear hd ht ho d1 t1 t2 hc0 hc1 hc2 hab
              generalize (a ++ b).length = lX at *
              generalize (headL (a ++ b)).length = lh at *
              go_wp2_with fail
              go_ret
              exact R.out
end Go.Proofs.Ytfkhingkmfapbaa
