/- The walk of FnExactRead: the law returns true. -/
import Derived.Test.YtfkhingkmfapbaaRdQ
import Derived.Deep.CutBlock
namespace Go.Proofs.Ytfkhingkmfapbaa
open Go.RowKit

set_option maxHeartbeats 4000000 in
set_option maxRecDepth 100000 in
theorem walk_FnExactRead (s0 s1 : ByteArray) (a2 : Int) (neg : Bool) (w0 : s0.size ≤ maxLen) (w1 : s1.size ≤ maxLen) (w2 : (Lit.int .i16 a2).wf = true) (w : World) :
    Calls Try.prog 8 #[.string s0, .string s1, .int .i16 a2, .bool neg] w fun e w' => e = .returned (.bool true) ∧ Below w.heap.size w w' := by
  obtain ⟨l0, rfl, hB0, hsz0'⟩ := bs_of s0
  obtain ⟨l1, rfl, hB1, hsz1'⟩ := bs_of s1
  have hsz0 := bs_size l0
  have hsz1 := bs_size l1
  have b2 := bounds_i16 w2
  have HB0 := Lib.hid hB0
  have HB1 := Lib.hid hB1
  clear w0 w1 w2 hsz0' hsz1' hB0 hB1
  by_cases hbig : 2147483647 < l0.length
  · have hbig' : (2147483647 : Int) < (l0.length : Int) := by omega
    go_enter Try.func8, Try.ntmps8
    go_wp2_with fail
    go_ret
    exact ⟨rfl, Below.refl _ _⟩
  · have hbig' : decide ((2147483647 : Int) < (l0.length : Int)) = false := by simp; omega
    by_cases hbig2 : 2147483647 < l1.length
    · have hbig3 : (2147483647 : Int) < (l1.length : Int) := by omega
      go_enter Try.func8, Try.ntmps8
      go_wp2_with fail
      go_ret
      exact ⟨rfl, Below.refl _ _⟩
    · have hbig3 : decide ((2147483647 : Int) < (l1.length : Int)) = false := by simp; omega
      have HDA := Lib.hid (onlyL_digs l0 300)
      have HDB := Lib.hid (onlyL_digs l1 300)
      have hla : (onlyL l0 300).length ≤ 400 := by rw [onlyL_len]; omega
      have hlb : (onlyL l1 300).length ≤ 400 := by rw [onlyL_len]; omega
      obtain ⟨he0, he1⟩ := tmod_1000 a2
      obtain ⟨e, ee⟩ : ∃ e, a2.tmod 1000 = e := ⟨_, rfl⟩
      rw [ee] at he0 he1
      go_enter Try.func8, Try.ntmps8
      go_wp2_with fail
      refine (only_any l0 300 _ HB0.out (by decide) (by omega)).mono ?_
      rintro r w3 ⟨rfl, hb3⟩
      have HB3 := Lib.hid hb3
      clear hb3
      go_wp2_with fail
      refine (only_any l1 300 _ HB1.out (by decide) (by omega)).mono ?_
      rintro r w4 ⟨rfl, hb4⟩
      have HB4 := Lib.hid (HB3.out.trans (hb4.mono HB3.out.size))
      clear hb4
      generalize onlyL l0 300 = A at *
      generalize onlyL l1 300 = B at *
      have hszA := bs_size A
      have hszB := bs_size B
      go_wp2_with fail
      refine (text_any neg A B e _ (by omega) (by omega) (by omega) (by omega)).mono ?_
      rintro r w5 ⟨rfl, hb5⟩
      have HB5 := Lib.hid (HB4.out.trans (hb5.mono HB4.out.size))
      clear hb5
      go_wp2_with fail
      refine (rd_out A B neg e _ HDA.out HDB.out hla hlb he0 he1).mono ?_
      rintro r w6 ⟨hb6, m, x, tr, i, ok, rfl, hok, hr⟩
      have HB6 := Lib.hid (HB5.out.trans (hb6.mono HB5.out.size))
      have HR := Lib.hid hr
      clear hb6 hr
      have hszT := bs_size (textL neg A B e)
      generalize textL neg A B e = TT at *
      have hap := bs_append A B
      have hszAB := bs_size (A ++ B)
      have hE : (bs (A ++ B)).toList.isEmpty = decide ((A ++ B).length = 0) := bs_isEmpty _
      by_cases hX : (A ++ B).length = 0
      · obtain rfl : ok = false := by rw [hok, hX]; rfl
        rw [decide_eq_true hX] at hE
        have HBf := Lib.hid (HB6.out.alloc HB6.out.size (.cells #[.int .u64 (m : Int), .int .i64 x, .bool neg, .bool tr, .bool false, .int .i64 (i : Int)] 48))
        clear hX hok
        go_wp2_with fail
        go_ret
        exact ⟨rfl, HBf.out⟩
      · obtain rfl : ok = true := by rw [hok]; exact decide_eq_true (by omega)
        rw [decide_eq_false hX] at hE
        obtain ⟨rfl, hm, htr, hx0, hx1, hx⟩ := HR.out (by omega)
        have hlab : (A ++ B).length = A.length + B.length := List.length_append
        have HDAB := Lib.hid (digs_append HDA.out HDB.out)
        have hlAB : (A ++ B).length ≤ 800 := by omega
        have HLV := Lib.hid (valD_len HDAB.out (by omega))
        have hlH := headL_le (A ++ B)
        have HDH := Lib.hid (headL_digs' HDAB.out)
        have HFI := Lib.hid (headL_first (A ++ B))
        have HVH := Lib.hid (valD_head (A ++ B))
        have HM := Lib.hid hm
        have HTR := Lib.hid htr
        have HX := Lib.hid hx
        have hm9 : m < 10000000000000000000 := by rw [hm]; exact rdM_lt HDH.out (n := 19) (by omega)
        have HKR := Lib.hid (Box.new w6 48 #[.int .u64 (m : Int), .int .i64 x, .bool neg, .bool tr, .bool false, .int .i64 (TT.length : Int)])
        have HL6 := Lib.hid (HB6.out.alloc HB6.out.size (.cells #[.int .u64 (m : Int), .int .i64 x, .bool neg, .bool tr, .bool false, .int .i64 (TT.length : Int)] 48))
        have hNN : (neg != neg) = false := by simp
        have hTT : ((TT.length : Int) != (TT.length : Int)) = false := by simp
        clear hX hok HR hm htr hx hlab
        generalize hXX : A ++ B = XX at *
        clear hXX
        obtain ⟨q, hq⟩ : ∃ q, q = e - (B.length : Int) := ⟨_, rfl⟩
        have hwq : IntKind.i64.wrap (e - (B.length : Int)) = q := by rw [IntWalk.i64_in _ (by omega)]; exact hq.symm
        have hq0 : -2000 ≤ q := by omega
        have hq1 : q ≤ 2000 := by omega
        have HX2 : Hid (m ≠ 0 → x = q + (((headL XX).length : Int) - (min (headL XX).length 19 : Nat))) := by intro h; rw [hq]; exact HX.out h
        have HQ := Lib.hid hq
        clear HX hq
        go_wp2_with fail
        generalize w6.alloc (.cells #[.int .u64 (m : Int), .int .i64 x, .bool neg, .bool tr, .bool false, .int .i64 (TT.length : Int)] 48) = W at *
        generalize w6.heap.size = h at *
        refine (digits_any XX _ HDAB.out (by omega)).mono ?_
        rintro r w8 ⟨v8, rfl, hv8, hb8⟩
        have HV8 := Lib.hid hv8
        have HB8 := Lib.hid hb8
        clear hv8 hb8
        go_wp2_with fail
        refine (times_ten _ (valD XX) _ _ HV8.out (by have := HLV.out; omega) (by omega) (by omega)).mono ?_
        rintro r w9 ⟨vn9, vd9, rfl, hn9, hd9, hb9⟩
        have L3 : Hid (Num.len (numT (valD XX) q) ≤ 3000) := by
          have h1 := Num.len_mul (valD XX) (10 ^ q.toNat)
          have h2 := HLV.out
          have h3 := pow10_len (n := q.toNat) (by omega)
          show Num.len (valD XX * 10 ^ q.toNat) ≤ 3000
          omega
        have L4 : Hid (Num.len (denT q) ≤ 3000) := by
          have h3 := pow10_len (n := (-q).toNat) (by omega)
          show Num.len (10 ^ (-q).toNat) ≤ 3000
          omega
        have hmN : Num.len m ≤ 2 := Num.len_le (by omega)
        have hmN1 : Num.len (m + 1) ≤ 2 := Num.len_le (by omega)
        have hp1 := pow10_len (n := x.toNat) (by omega)
        have hp2 := pow10_len (n := (-x).toNat) (by omega)
        have L5 : Hid (Num.len (numT m x) ≤ 3000) := by
          have h1 := Num.len_mul m (10 ^ x.toNat)
          show Num.len (m * 10 ^ x.toNat) ≤ 3000
          omega
        have L6 : Hid (Num.len (numT (m + 1) x) ≤ 3000) := by
          have h1 := Num.len_mul (m + 1) (10 ^ x.toNat)
          show Num.len ((m + 1) * 10 ^ x.toNat) ≤ 3000
          omega
        have L7 : Hid (Num.len (denT x) ≤ 3000) := by
          show Num.len (10 ^ (-x).toNat) ≤ 3000
          omega
        clear hp1 hp2
        obtain ⟨An, cn, rfl, _, _⟩ := natLen_shape hn9
        obtain ⟨Ad, cd, rfl, _, _⟩ := natLen_shape hd9
        have hb89 := HB8.out.trans (hb9.mono HB8.out.size)
        have HB9 := Lib.hid (hb89.alloc hb89.size (.cells #[.slice An (Num.len (numT (valD XX) q)) cn, .slice Ad (Num.len (denT q)) cd] 31))
        have HKR9 := Lib.hid ((HKR.out.later hb89 HKR.out.lt).alloc (.cells #[.slice An (Num.len (numT (valD XX) q)) cn, .slice Ad (Num.len (denT q)) cd] 31))
        have HKT := Lib.hid (Box.new w9 31 #[.slice An (Num.len (numT (valD XX) q)) cn, .slice Ad (Num.len (denT q)) cd])
        have HN9 := Lib.hid (hn9.alloc (.cells #[.slice An (Num.len (numT (valD XX) q)) cn, .slice Ad (Num.len (denT q)) cd] 31))
        have HD9 := Lib.hid (hd9.alloc (.cells #[.slice An (Num.len (numT (valD XX) q)) cn, .slice Ad (Num.len (denT q)) cd] 31))
        have HE0 : Hid (rdT (headL XX) = false → cmpN (numT m x * denT q) (numT (valD XX) q * denT x) = 0) := fun ht => by
          have h1 := rd_same (H := headL XX) (q := q) (x := x) ht (by rw [← HM.out]; exact HX2.out)
          rw [← HM.out, HVH.out] at h1
          exact cmpN_eq h1
        have HE1 : Hid (rdT (headL XX) = true → cmpN m (valD ((headL XX).take 19)) = 0 ∧ cmpN (numT m x * denT q) (numT (valD XX) q * denT x) = -1 ∧ cmpN (numT (m + 1) x * denT q) (numT (valD XX) q * denT x) = 1 ∧ 19 < (headL XX).length) := fun ht => by
          have h19 : 19 < (headL XX).length := by
            rcases Nat.lt_or_ge 19 (headL XX).length with h | h
            · exact h
            · exfalso
              unfold rdT at ht
              rw [List.drop_of_length_le h] at ht
              simp [valD] at ht
          have hpos : m ≠ 0 := by
            have h2 := HFI.out
            rcases h2 with h2 | h2
            · rw [h2] at h19; simp at h19
            · have := rd_pos HDH.out (by omega) h2
              rw [HM.out]; omega
          have h1 := rd_between (H := headL XX) (q := q) (x := x) HDH.out ht (by omega) (HX2.out hpos)
          rw [← HM.out, HVH.out] at h1
          exact ⟨cmpN_eq HM.out, cmpN_lt h1.1, cmpN_gt h1.2, h19⟩
        clear hn9 hd9 hb9 hb89 HKR HB8 HV8 HX2 HVH HM HQ hwq HFI
        generalize numT (valD XX) q = NV at *
        generalize denT q = DV at *
        go_wp2_with fail
        generalize w9.alloc (.cells #[.slice An (Num.len NV) cn, .slice Ad (Num.len DV) cd] 31) = W9 at *
        generalize w9.heap.size = g at *
        refine (head_any XX _ (digs_bytes HDAB.out)).mono ?_
        rintro r w10 ⟨rfl, rfl⟩
        clear hap hszAB hE HDAB HLV
        generalize headL XX = H at *
        have hszH := bs_size H
        have hx19 : (bs H).extract 0 19 = bs (H.take 19) := bs_take H 19
        have hd19 : (bs H).extract 19 H.length = bs (H.drop 19) := bs_drop' H 19
        obtain ⟨n, hn⟩ : ∃ n, n = H.length := ⟨_, rfl⟩
        have hn8 : n ≤ 800 := by omega
        clear hlAB hlH
        rw [← hn] at hszH hd19 HE1
        have HNn := Lib.hid hn
        clear hn
        go_upto_region 12 with fail
        go_cut [98] (fun t wx => t = .bool (!tr) ∧ wx = W9)
        case first =>
          as_aux_lemma =>
            have hEt : (bs (tailL (H.drop 19))).toList.isEmpty = decide ((tailL (H.drop 19)).length = 0) := bs_isEmpty _
            have HTV := Lib.hid (tail_val (digs_drop HDH.out 19))
            by_cases h19 : n ≤ 19
            · have h19' : (n : Int) ≤ 19 := by omega
              have HF : Hid (rdT H = false) := by
                show _ = _
                unfold rdT
                rw [List.drop_of_length_le (by have := HNn.out; omega)]
                rfl
              clear hEt HTV
              go_wp2_with fail
              go_meet
              exact ⟨by rw [HTR.out, HF.out]; rfl, rfl⟩
            · have h19' : ¬ (n : Int) ≤ 19 := by omega
              have h19b : (19 : Int) ≤ (n : Int) := by omega
              by_cases hv : valD (H.drop 19) = 0
              · have HF : Hid (rdT H = false) := by
                  show _ = _
                  unfold rdT
                  rw [hv]; rfl
                rw [decide_eq_true (HTV.out.2 hv)] at hEt
                clear hv HTV
                go_wp2_with (go_at_call 27; refine (tail_any (H.drop 19) _ (digs_bytes (digs_drop HDH.out 19)) (by have := HNn.out; simp; omega)).mono ?_; rintro r w' ⟨rfl, rfl⟩)
                go_meet
                exact ⟨by rw [HTR.out, HF.out]; rfl, rfl⟩
              · have HF : Hid (rdT H = true) := by
                  show _ = _
                  unfold rdT
                  exact decide_eq_true hv
                rw [decide_eq_false (fun h => hv (HTV.out.1 h))] at hEt
                clear hv HTV
                go_wp2_with (go_at_call 27; refine (tail_any (H.drop 19) _ (digs_bytes (digs_drop HDH.out 19)) (by have := HNn.out; simp; omega)).mono ?_; rintro r w' ⟨rfl, rfl⟩)
                go_meet
                exact ⟨by rw [HTR.out, HF.out]; rfl, rfl⟩
        case rest =>
          obtain ⟨rfl, rfl⟩ := hcut
          obtain ⟨WW, hWW⟩ : ∃ WW : World, WW = wc := ⟨_, rfl⟩
          subst hWW
          have S : Hid (∀ w' : World, Below WW.heap.size WW w' → (w'.cell? ⟨h, 0, none⟩ = some (.int .u64 (m : Int)) ∧ w'.cell? ⟨h, 1, none⟩ = some (.int .i64 x) ∧ w'.cell? ⟨h, 3, none⟩ = some (.bool tr)) ∧ w'.cell? ⟨g, 0, none⟩ = some (.slice An (Num.len NV) cn) ∧ w'.cell? ⟨g, 1, none⟩ = some (.slice Ad (Num.len DV) cd)) := fun w' hb => by
            have k3 := HKR9.out.later hb HKR9.out.lt
            have k4 := HKT.out.later hb HKT.out.lt
            exact ⟨⟨by rw [k3.cell 0]; rfl, by rw [k3.cell 1]; rfl, by rw [k3.cell 3]; rfl⟩, by rw [k4.cell 0]; rfl, by rw [k4.cell 1]; rfl⟩
          obtain ⟨⟨c0, c1, c3⟩, d0, d1⟩ := S.out WW (Below.refl _ _)
          have M1 : Num.len (numT m x) + Num.len DV ≤ 1000000 := by have h1 := L5.out; have h2 := L4.out; omega
          have M2 : Num.len NV + Num.len (denT x) ≤ 1000000 := by have h1 := L3.out; have h2 := L7.out; omega
          have M3 : Num.len (numT (m + 1) x) + Num.len DV ≤ 1000000 := by have h1 := L6.out; have h2 := L4.out; omega
          have M4 : Num.len m ≤ 1000 := by omega
          have M5 : Num.len (m + 1) ≤ 1000 := by omega
          have x50 : -5000 ≤ x := by omega
          have x51 : x ≤ 5000 := by omega
          have m64 : m ≤ 18446744073709551615 := by omega
          have m65 : m + 1 ≤ 18446744073709551615 := by omega
          have HT19 := Lib.hid (digs_take HDH.out 19)
          have l19 : (H.take 19).length ≤ 1600 := by have := HNn.out; simp; omega
          have hwm : IntKind.u64.wrap ((m : Int) + 1) = (m : Int) + 1 := IntWalk.u64_in _ (by omega)
          have RB := Lib.hid (HL6.out.trans (HB9.out.mono HL6.out.size))
          clear HB9
          cases tr
          · as_aux_lemma =>
              have E0 := Lib.hid (HE0.out HTR.out.symm)
              clear HE0 HE1 HTR
              go_upto_region 13 with fail
              go_region_held3 (fun w' => (w'.cell? ⟨h, 0, none⟩ = some (.int .u64 (m : Int)) ∧ w'.cell? ⟨h, 1, none⟩ = some (.int .i64 x) ∧ w'.cell? ⟨h, 3, none⟩ = some (.bool false)) ∧ w'.cell? ⟨g, 0, none⟩ = some (.slice An (Num.len NV) cn) ∧ w'.cell? ⟨g, 1, none⟩ = some (.slice Ad (Num.len DV) cd))
                (first | exact S.out _ hb6 | exact S.out _ hb5 | exact S.out _ hb4 | exact ⟨⟨c0, c1, c3⟩, d0, d1⟩)
                (first
                  | (go_at_call 28; refine (natOf_is (m : Int) m _ rfl m64).mono ?_; rintro e' w4 ⟨v4, rfl, hv4, hb4'⟩; have hb4 := undrew hb4')
                  | (go_at_call 23; refine (times_ten _ m x _ hv4 M4 x50 x51).mono ?_; rintro e' w5 ⟨vn5, vd5, rfl, hn5, hd5, hb5'⟩; have hb5 := hb4.trans (hb5'.mono hb4.size))
                  | (go_at_call 14; refine (cmp_is _ _ (numT m x) (denT x) NV DV 0 _ (ratioIs_mk hn5 hd5) (ratioIs_mk (HN9.out.later hb5) (HD9.out.later hb5)) M1 M2 E0.out).mono ?_; rintro e' w6 ⟨rfl, hb6'⟩; have hb6 := hb5.trans (hb6'.mono hb5.size)))
              all_goals
                have R := Lib.hid (RB.out.trans (hb6.mono RB.out.size))
                clear hb4 hb4' hv4 hn5 hd5 hb5 hb5' hb6 hb6' c0 c1 c3 d0 d1
                go_wp2_with fail
                go_ret
                exact ⟨rfl, R.out⟩
          · as_aux_lemma =>
              obtain ⟨e1, e2, e3, e4⟩ := HE1.out HTR.out.symm
              have E1 := Lib.hid e1
              have E2 := Lib.hid e2
              have E3 := Lib.hid e3
              have h19b : (19 : Int) ≤ (n : Int) := by omega
              have m1e : (m : Int) + 1 = ((m + 1 : Nat) : Int) := by omega
              have M1E := Lib.hid m1e
              clear m1e
              clear HE0 HE1 HTR e1 e2 e3 e4 hd19
              go_upto_region 14 with fail
              go_region_held3 (fun w' => (w'.cell? ⟨h, 0, none⟩ = some (.int .u64 (m : Int)) ∧ w'.cell? ⟨h, 1, none⟩ = some (.int .i64 x) ∧ w'.cell? ⟨h, 3, none⟩ = some (.bool true)) ∧ w'.cell? ⟨g, 0, none⟩ = some (.slice An (Num.len NV) cn) ∧ w'.cell? ⟨g, 1, none⟩ = some (.slice Ad (Num.len DV) cd))
                (first | exact S.out _ hb9 | exact S.out _ hb8 | exact S.out _ hb7 | exact S.out _ hb6 | exact S.out _ hb5 | exact S.out _ hb4 | exact S.out _ hb3 | exact S.out _ hb2 | exact ⟨⟨c0, c1, c3⟩, d0, d1⟩)
                (first
                  | (go_at_call_of 28 (Value.int IntKind.u64 (m : Int)); (with_reducible refine (natOf_is (m : Int) m _ rfl m64).mono ?_); rintro e' w4 ⟨v4, rfl, hv4, hb4'⟩; have hb4 := hb3.trans (hb4'.mono hb3.size))
                  | (go_at_call_of 28 (Value.int IntKind.u64 (m : Int)); (with_reducible refine (natOf_is (m : Int) m _ rfl m64).mono ?_); rintro e' w2 ⟨v2, rfl, hv2, hb2'⟩; have hb2 : Below WW.heap.size WW w2 := undrew hb2')
                  | (go_at_call 24; (with_reducible refine (digits_any (H.take 19) _ HT19.out l19).mono ?_); rintro e' w3 ⟨v3, rfl, hv3, hb3'⟩; have hb3 := hb2.trans (hb3'.mono hb2.size); have hv23 := hv2.later hb3')
                  | (go_at_call 29; (with_reducible refine (natCmp_is _ _ m (valD (H.take 19)) 0 _ hv23 hv3 E1.out).mono ?_); rintro e' w' ⟨rfl, rfl⟩)
                  | (go_at_call_of 23 v4; (with_reducible refine (times_ten _ m x _ hv4 M4 x50 x51).mono ?_); rintro e' w5 ⟨vn5, vd5, rfl, hn5, hd5, hb5'⟩; have hb5 := hb4.trans (hb5'.mono hb4.size))
                  | (go_at_call_of 14 vn5; (with_reducible refine (cmp_is _ _ (numT m x) (denT x) NV DV (-1) _ (ratioIs_mk hn5 hd5) (ratioIs_mk (HN9.out.later hb5) (HD9.out.later hb5)) M1 M2 E2.out).mono ?_); rintro e' w6 ⟨rfl, hb6'⟩; have hb6 := hb5.trans (hb6'.mono hb5.size))
                  | (go_at_call 28; (with_reducible refine (natOf_is _ (m + 1) _ M1E.out m65).mono ?_); rintro e' w7 ⟨v7, rfl, hv7, hb7'⟩; have hb7 := hb6.trans (hb7'.mono hb6.size))
                  | (go_at_call_of 23 v7; (with_reducible refine (times_ten _ (m + 1) x _ hv7 M5 x50 x51).mono ?_); rintro e' w8 ⟨vn8, vd8, rfl, hn8', hd8, hb8'⟩; have hb8 := hb7.trans (hb8'.mono hb7.size))
                  | (go_at_call_of 14 vn8; (with_reducible refine (cmp_is _ _ (numT (m + 1) x) (denT x) NV DV 1 _ (ratioIs_mk hn8' hd8) (ratioIs_mk (HN9.out.later hb8) (HD9.out.later hb8)) M3 M2 E3.out).mono ?_); rintro e' w9 ⟨rfl, hb9'⟩; have hb9 := hb8.trans (hb9'.mono hb8.size)))
              all_goals
                have R := Lib.hid (RB.out.trans (hb9.mono RB.out.size))
                clear hb2 hb2' hb3 hb3' hb4 hb4' hb5 hb5' hb6 hb6' hb7 hb7' hb8 hb8' hb9 hb9' hv2 hv3 hv23 hv4 hn5 hd5 hv7 hn8' hd8 c0 c1 c3 d0 d1
                go_wp2_with fail
                go_ret
                exact ⟨rfl, R.out⟩
end Go.Proofs.Ytfkhingkmfapbaa
