/- The walk of FnExactParseDecimal: the law returns true. -/
import Derived.Test.YtfkhingkmfapbaaPars
import Derived.Test.YtfkhingkmfapbaaWRD
namespace Go.Proofs.Ytfkhingkmfapbaa
open Go.RowKit

theorem valD_head (X : List Nat) : valD (headL X) = valD X := by
  induction X with
  | nil => rfl
  | cons c r ih =>
    unfold headL
    split
    · rename_i h
      rw [ih, h]
      have := valD_append [48] r
      rw [List.singleton_append] at this
      rw [this]; simp [valD]
    · rfl
theorem headL_mem {X : List Nat} {y : Nat} (h : y ∈ headL X) : y ∈ X := by
  induction X with
  | nil => exact h
  | cons c r ih =>
    unfold headL at h
    split at h
    · exact List.mem_cons_of_mem _ (ih h)
    · exact h
theorem tmod_1000 (p : Int) : -1000 < p.tmod 1000 ∧ p.tmod 1000 < 1000 := by
  have h1 := Int.tmod_lt_of_pos p (show (0 : Int) < 1000 by decide)
  have h2 := Int.lt_tmod_of_pos p (show (0 : Int) < 1000 by decide)
  omega

set_option maxHeartbeats 4000000 in
set_option maxRecDepth 100000 in
theorem walk_FnExactParseDecimal (s0 s1 : ByteArray) (a2 : Int) (neg : Bool) (w0 : s0.size ≤ maxLen) (w1 : s1.size ≤ maxLen) (w2 : (Lit.int .i16 a2).wf = true) (w : World) :
    Calls Try.prog 7 #[.string s0, .string s1, .int .i16 a2, .bool neg] w fun e w' => e = .returned (.bool true) ∧ Below w.heap.size w w' := by
  obtain ⟨l0, rfl, hB0, hsz0'⟩ := bs_of s0
  obtain ⟨l1, rfl, hB1, hsz1'⟩ := bs_of s1
  have hsz0 := bs_size l0
  have hsz1 := bs_size l1
  have b2 := bounds_i16 w2
  have HB0 := Lib.hid hB0
  have HB1 := Lib.hid hB1
  clear w0 w1 w2 hsz0' hsz1' hB0 hB1
  by_cases hbig : 2147483647 < l0.length
  · have hbig' : (2147483647 : Int) < (l0.length : Int) := by omega
    go_enter Try.func7, Try.ntmps7
    go_wp2_with fail
    go_ret
    exact ⟨rfl, Below.refl _ _⟩
  · have hbig' : decide ((2147483647 : Int) < (l0.length : Int)) = false := by simp; omega
    by_cases hbig2 : 2147483647 < l1.length
    · have hbig3 : (2147483647 : Int) < (l1.length : Int) := by omega
      go_enter Try.func7, Try.ntmps7
      go_wp2_with fail
      go_ret
      exact ⟨rfl, Below.refl _ _⟩
    · have hbig3 : decide ((2147483647 : Int) < (l1.length : Int)) = false := by simp; omega
      have HDA := Lib.hid (onlyL_digs l0 400)
      have HDB := Lib.hid (onlyL_digs l1 400)
      have hla : (onlyL l0 400).length ≤ 400 := by rw [onlyL_len]; omega
      have hlb : (onlyL l1 400).length ≤ 400 := by rw [onlyL_len]; omega
      obtain ⟨he0, he1⟩ := tmod_1000 a2
      obtain ⟨e, ee⟩ : ∃ e, a2.tmod 1000 = e := ⟨_, rfl⟩
      rw [ee] at he0 he1
      go_enter Try.func7, Try.ntmps7
      go_wp2_with fail
      refine (only_any l0 400 _ HB0.out (by decide) (by omega)).mono ?_
      rintro r w3 ⟨rfl, hb3⟩
      have HB3 := Lib.hid hb3
      clear hb3
      go_wp2_with fail
      refine (only_any l1 400 _ HB1.out (by decide) (by omega)).mono ?_
      rintro r w4 ⟨rfl, hb4⟩
      have HB4 := Lib.hid (HB3.out.trans (hb4.mono HB3.out.size))
      clear hb4
      generalize onlyL l0 400 = A at *
      generalize onlyL l1 400 = B at *
      have hszA := bs_size A
      have hszB := bs_size B
      go_wp2_with fail
      refine (text_any neg A B e _ (by omega) (by omega) (by omega) (by omega)).mono ?_
      rintro r w5 ⟨rfl, hb5⟩
      have HB5 := Lib.hid (HB4.out.trans (hb5.mono HB4.out.size))
      clear hb5
      go_wp2_with fail
      refine (parse_out A B neg e _ HDA.out HDB.out hla hlb he0 he1).mono ?_
      rintro r w6 ⟨dp, rfl, hp1, hp2, hp3, hb6⟩
      have HB6 := Lib.hid (HB5.out.trans (hb6.mono HB5.out.size))
      have HP3 := Lib.hid hp3
      clear hb6 hp3
      have hap := bs_append A B
      have hszAB := bs_size (A ++ B)
      have hE : (bs (A ++ B)).toList.isEmpty = decide ((A ++ B).length = 0) := bs_isEmpty _
      by_cases hX : (A ++ B).length = 0
      · have hX2 : decide (0 < (A ++ B).length) = false := by rw [hX]; rfl
        rw [decide_eq_true hX] at hE
        rw [hX2]
        clear hX2
        have HBf := Lib.hid (HB6.out.alloc HB6.out.size (.cells #[.string (bs (headL (A ++ B))), .int .i64 dp, .bool neg, .bool false] 25))
        clear hX
        go_wp2_with fail
        go_ret
        exact ⟨rfl, HBf.out⟩
      · have hX2 : decide (0 < (A ++ B).length) = true := decide_eq_true (by omega)
        rw [decide_eq_false hX] at hE
        rw [hX2]
        have hdp := HP3.out (by omega)
        have hlab : (A ++ B).length = A.length + B.length := List.length_append
        have HEQ := Lib.hid (dec_eq (L := headL (A ++ B)) (y := valD (A ++ B)) (j := 0) (P := dp) (q := e - (B.length : Int)) (by rw [valD_head, Nat.pow_zero, Nat.mul_one]) (by omega))
        have HDX : Hid (Digs (headL (A ++ B))) := fun y hy => (digs_append HDA.out HDB.out) y (headL_mem hy)
        have hlX : (headL (A ++ B)).length ≤ 800 := by have := headL_le (A ++ B); omega
        have HDAB := Lib.hid (digs_append HDA.out HDB.out)
        have hlAB : (A ++ B).length ≤ 800 := by omega
        have HLV := Lib.hid (valD_len HDAB.out (by omega))
        have hszX := bs_size (headL (A ++ B))
        have HKB := Lib.hid (Box.new w6 25 #[.string (bs (headL (A ++ B))), .int .i64 dp, .bool neg, .bool false])
        have HKL := Lib.hid (HB6.out.alloc HB6.out.size (.cells #[.string (bs (headL (A ++ B))), .int .i64 dp, .bool neg, .bool false] 25))
        clear hX hX2 hdp hlab HP3
        generalize headL (A ++ B) = LL at *
        generalize hXX : A ++ B = XX at *
        clear hXX
        go_wp2_with fail
        generalize w6.alloc (.cells #[.string (bs LL), .int .i64 dp, .bool neg, .bool false] 25) = W at *
        refine (value_any LL dp neg false _ HDX.out (by omega) (by omega) (by omega)).mono ?_
        rintro r w7 ⟨vn7, vd7, rfl, hn7, hd7, hb7⟩
        have HN7 := Lib.hid hn7
        have HD7 := Lib.hid hd7
        have HB7 := Lib.hid hb7
        clear hn7 hd7 hb7
        go_wp2_with fail
        refine (digits_any XX _ HDAB.out (by omega)).mono ?_
        rintro r w8 ⟨v8, rfl, hv8, hb8⟩
        have HV8 := Lib.hid hv8
        have HB8 := Lib.hid hb8
        clear hv8 hb8
        go_wp2_with fail
        refine (times_ten _ (valD XX) _ _ HV8.out (by have := HLV.out; omega) (by omega) (by omega)).mono ?_
        rintro r w9 ⟨vn9, vd9, rfl, hn9, hd9, hb9⟩
        have HN9 := Lib.hid hn9
        have HD9 := Lib.hid hd9
        have HB9 := Lib.hid (HB8.out.trans (hb9.mono HB8.out.size))
        clear hn9 hd9 hb9
        have L1 := Lib.hid (numV_len (P := dp) HDX.out (by omega) (by omega) (by omega))
        have L2 := Lib.hid (denV_len (L := LL) (P := dp) (by omega) (by omega))
        have L3 : Hid (Num.len (numT (valD XX) (e - (B.length : Int))) ≤ 3000) := by
          have h1 := Num.len_mul (valD XX) (10 ^ (e - (B.length : Int)).toNat)
          have h2 := HLV.out
          have h3 := pow10_len (n := (e - (B.length : Int)).toNat) (by omega)
          show Num.len (valD XX * 10 ^ (e - (B.length : Int)).toNat) ≤ 3000
          omega
        have L4 : Hid (Num.len (denT (e - (B.length : Int))) ≤ 3000) := by
          have h3 := pow10_len (n := (-(e - (B.length : Int))).toNat) (by omega)
          show Num.len (10 ^ (-(e - (B.length : Int))).toNat) ≤ 3000
          omega
        have hE0 : (cmpN (numV LL dp * denT (e - (B.length : Int))) (numT (valD XX) (e - (B.length : Int)) * denV LL dp) == 0) = true := by rw [cmpN_eq HEQ.out]; rfl
        go_wp2_with fail
        refine (cmp_any _ _ (numV LL dp) (denV LL dp) (numT (valD XX) (e - (B.length : Int))) (denT (e - (B.length : Int))) _ ⟨_, _, rfl, HN7.out.later HB9.out, HD7.out.later HB9.out⟩ ⟨_, _, rfl, HN9.out, HD9.out⟩ (by have h1 := L1.out; have h2 := L4.out; omega) (by have h1 := L2.out; have h2 := L3.out; omega)).mono ?_
        rintro r w10 ⟨rfl, hb10⟩
        have R := Lib.hid (HKL.out.trans ((HB7.out.trans ((HB9.out.trans (hb10.mono HB9.out.size)).mono HB7.out.size)).mono HKL.out.size))
        clear hb10
        go_wp2_with fail
        go_ret
        exact ⟨rfl, R.out⟩
end Go.Proofs.Ytfkhingkmfapbaa
