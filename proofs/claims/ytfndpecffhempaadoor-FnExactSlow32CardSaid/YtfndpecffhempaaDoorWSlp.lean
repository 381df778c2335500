/- The walk of FnExactSlow32: the law returns true. -/
import Derived.Test.YtfndpecffhempaaDoorSlp
import Derived.Test.YtfndpecffhempaaDoorLayP
import Derived.Test.YtfndpecffhempaaDoorFBj
namespace Go.Proofs.YtfndpecffhempaaDoor
open Go.RowKit

theorem tmod_100032 (p : Int) : -1000 < p.tmod 1000 ∧ p.tmod 1000 < 1000 := by
  have h1 := Int.tmod_lt_of_pos p (show (0 : Int) < 1000 by decide)
  have h2 := Int.lt_tmod_of_pos p (show (0 : Int) < 1000 by decide)
  omega

set_option maxHeartbeats 4000000 in
set_option maxRecDepth 100000 in
theorem walk_FnExactSlow32 (s0 s1 : ByteArray) (a2 : Int) (neg : Bool) (w0 : s0.size ≤ maxLen) (w1 : s1.size ≤ maxLen) (w2 : (Lit.int .i16 a2).wf = true) (w : World) (hT : PowT w w.heap.size ∧ Cheat w w.heap.size) :
    Calls Tryd.prog 7 #[.string s0, .string s1, .int .i16 a2, .bool neg] w fun e w' => e = .returned (.bool true) ∧ Below w.heap.size w w' := by
  obtain ⟨l0, rfl, hB0, hsz0'⟩ := bs_of s0
  obtain ⟨l1, rfl, hB1, hsz1'⟩ := bs_of s1
  have hsz0 := bs_size l0
  have hsz1 := bs_size l1
  have b2 := bounds_i16 w2
  have HB0 := Lib.hid hB0
  have HB1 := Lib.hid hB1
  have HC := Lib.hid hT.2
  have HP := Lib.hid hT.1
  clear w0 w1 w2 hsz0' hsz1' hB0 hB1 hT
  by_cases hbig : 2147483647 < l0.length
  · have hbig' : (2147483647 : Int) < (l0.length : Int) := by omega
    go_enter Tryd.func7, Tryd.ntmps7
    go_wp2_with fail
    go_ret
    exact ⟨rfl, Below.refl _ _⟩
  · have hbig' : decide ((2147483647 : Int) < (l0.length : Int)) = false := by simp; omega
    by_cases hbig2 : 2147483647 < l1.length
    · have hbig3 : (2147483647 : Int) < (l1.length : Int) := by omega
      go_enter Tryd.func7, Tryd.ntmps7
      go_wp2_with fail
      go_ret
      exact ⟨rfl, Below.refl _ _⟩
    · have hbig3 : decide ((2147483647 : Int) < (l1.length : Int)) = false := by simp; omega
      have HDA := Lib.hid (onlyL_digs l0 400)
      have HDB := Lib.hid (onlyL_digs l1 400)
      have hla : (onlyL l0 400).length ≤ 400 := by rw [onlyL_len]; omega
      have hlb : (onlyL l1 400).length ≤ 400 := by rw [onlyL_len]; omega
      obtain ⟨he0, he1⟩ := tmod_100032 a2
      obtain ⟨e, ee⟩ : ∃ e, a2.tmod 1000 = e := ⟨_, rfl⟩
      rw [ee] at he0 he1
      go_enter Tryd.func7, Tryd.ntmps7
      go_wp2_with fail
      refine (only_any l0 400 _ HB0.out (by decide) (by omega)).mono ?_
      rintro r w3 ⟨rfl, hb3⟩
      have HB3 := Lib.hid hb3
      clear hb3
      go_wp2_with fail
      refine (only_any l1 400 _ HB1.out (by decide) (by omega)).mono ?_
      rintro r w4 ⟨rfl, hb4⟩
      have HB4 := Lib.hid (HB3.out.trans (hb4.mono HB3.out.size))
      clear hb4
      generalize onlyL l0 400 = A at *
      generalize onlyL l1 400 = B at *
      have hszA := bs_size A
      have hszB := bs_size B
      go_wp2_with fail
      refine (text_any neg A B e _ (by omega) (by omega) (by omega) (by omega)).mono ?_
      rintro r w5 ⟨rfl, hb5⟩
      have HB5 := Lib.hid (HB4.out.trans (hb5.mono HB4.out.size))
      clear hb5
      go_wp2_with fail
      refine (slow_out32 A B neg e _ w.heap.size HDA.out HDB.out hla hlb he0 he1 (HC.out.later HB5.out (Nat.le_refl _)) (HP.out.later HB5.out (Nat.le_refl _))).mono ?_
      rintro r w6 ⟨z, q, rfl, hz, hb6⟩
      have HB6 := Lib.hid (HB5.out.trans (hb6.mono HB5.out.size))
      have HZ := Lib.hid hz
      clear hb6 hz
      have hap := bs_append A B
      have hszAB := bs_size (A ++ B)
      have hE : (bs (A ++ B)).toList.isEmpty = decide ((A ++ B).length = 0) := bs_isEmpty _
      by_cases hX : (A ++ B).length = 0
      · have hX2 : decide (0 < (A ++ B).length) = false := by rw [hX]; rfl
        rw [decide_eq_true hX] at hE
        rw [hX2]
        clear hX2 hX HZ
        go_wp2_with fail
        go_ret
        exact ⟨rfl, HB6.out⟩
      · have hX2 : decide (0 < (A ++ B).length) = true := decide_eq_true (by omega)
        rw [decide_eq_false hX] at hE
        rw [hX2]
        have hlab : (A ++ B).length = A.length + B.length := List.length_append
        have hz := HZ.out (by omega)
        have HDAB := Lib.hid (digs_append HDA.out HDB.out)
        have hlAB : (A ++ B).length ≤ 800 := by omega
        have HLV := Lib.hid (valD_len HDAB.out (by omega))
        have HZZ := Lib.hid hz
        clear hX hX2 hlab HZ hz
        generalize hXX : A ++ B = XX at *
        clear hXX
        go_wp2_with fail
        refine (digits_any XX _ HDAB.out (by omega)).mono ?_
        rintro r w8 ⟨v8, rfl, hv8, hb8⟩
        have HV8 := Lib.hid hv8
        have HB8 := Lib.hid (HB6.out.trans (hb8.mono HB6.out.size))
        clear hv8 hb8
        go_wp2_with fail
        refine (times_ten _ (valD XX) _ _ HV8.out (by have := HLV.out; omega) (by omega) (by omega)).mono ?_
        rintro r w9 ⟨vn9, vd9, rfl, hn9, hd9, hb9⟩
        have HN9 := Lib.hid (show RatioIs w9 (.agg #[vn9, vd9]) (numT (valD XX) (e - (B.length : Int))) (denT (e - (B.length : Int))) from ⟨vn9, vd9, rfl, hn9, hd9⟩)
        have HB9 := Lib.hid (HB8.out.trans (hb9.mono HB8.out.size))
        clear hn9 hd9 hb9
        have L3 : Hid (Num.len (numT (valD XX) (e - (B.length : Int))) ≤ 3000) := by
          have h1 := Num.len_mul (valD XX) (10 ^ (e - (B.length : Int)).toNat)
          have h2 := HLV.out
          have h3 := pow10_len (n := (e - (B.length : Int)).toNat) (by omega)
          show Num.len (valD XX * 10 ^ (e - (B.length : Int)).toNat) ≤ 3000
          omega
        have L4 : Hid (Num.len (denT (e - (B.length : Int))) ≤ 3000) := by
          have h3 := pow10_len (n := (-(e - (B.length : Int))).toNat) (by omega)
          show Num.len (10 ^ (-(e - (B.length : Int))).toNat) ≤ 3000
          omega
        have L5 : Hid (denT (e - (B.length : Int)) ≠ 0) := ten_ne _
        generalize numT (valD XX) (e - (B.length : Int)) = nn at *
        generalize denT (e - (B.length : Int)) = dd at *
        go_wp2_with fail
        refine (single_any _).mono ?_
        rintro r w10 ⟨rfl, hb10⟩
        have HN10 := Lib.hid (HN9.out.later hb10)
        have HB10 := Lib.hid (HB9.out.trans (hb10.mono HB9.out.size))
        clear hb10
        go_wp2_with fail
        refine (bits_single nn dd neg _ _ HN10.out L5.out (by have := L3.out; omega) (by have := L4.out; omega)).mono ?_
        rintro r w11 ⟨rfl, hb11⟩
        have HB11 := Lib.hid (HB10.out.trans (hb11.mono HB10.out.size))
        obtain ⟨hz, hq⟩ := HZZ.out
        clear hb11 HZZ
        rw [← hz, ← hq]
        have hz4 : z < 4294967296 := by rw [hz]; exact sgn_low32 (rungQ_le 23 255 _ _ _) neg
        have hw32 : IntKind.u64.wrap (z : Int) = (z : Int) := IntWalk.u64_in _ (by omega)
        clear hz hq
        go_wp2_with fail
        go_ret
        exact ⟨rfl, HB11.out⟩
end Go.Proofs.YtfndpecffhempaaDoor
