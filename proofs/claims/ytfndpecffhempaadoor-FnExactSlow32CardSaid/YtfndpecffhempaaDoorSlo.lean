/- Slow64 of the package and of the thin package, by contracts. Written by gen_slow.py. -/
import Derived.Test.YtfndpecffhempaaDoorFbW
import Derived.Test.YtfndpecffhempaaDoorFbG
import Derived.Test.YtfndpecffhempaaDoorPars
import Derived.Test.YtfndpecffhempaaDoorTid
namespace Go.Proofs.YtfndpecffhempaaDoor
open Go.RowKit

/-- the bits, whether it is an infinity, whether it is a number -/
def GivesSlow (k : IntKind) (sg : Nat) (rung : Nat → Nat → Nat) (inf : Nat) (a b : List Nat) (e : Int) (neg : Bool) (w : World) (r : Ending) (w' : World) : Prop :=
  ∃ (z : Nat) (q : Bool), r = .returned (.tuple #[.int k (z : Int), .bool q, .bool (decide (0 < (a ++ b).length))]) ∧
    (0 < (a ++ b).length → z = sgnB neg sg (rung (numT (valD (a ++ b)) (e - (b.length : Int))) (denT (e - (b.length : Int)))) ∧ q = decide (rung (numT (valD (a ++ b)) (e - (b.length : Int))) (denT (e - (b.length : Int))) = inf)) ∧ Below w.heap.size w w'
theorem headL_lead {X : List Nat} (h : Digs X) : (headL X).length ≠ 0 → Lead (headL X) := fun h0 => by
  rcases headL_first X with e | e
  · exact absurd (by rw [e]; rfl) h0
  · exact ⟨headL_digs h, by omega, e⟩
theorem valD_head (X : List Nat) : valD (headL X) = valD X := by
  induction X with
  | nil => rfl
  | cons c r ih =>
    unfold headL
    split
    · rename_i h
      rw [ih, h]
      have := valD_append [48] r
      rw [List.singleton_append] at this
      rw [this]; simp [valD]
    · rfl
theorem ten_ne (n : Nat) : 10 ^ n ≠ 0 := by have := Nat.pow_pos (n := n) (show 0 < 10 by omega); omega
theorem slow_same {F top : Nat} {least : Int} {a b : List Nat} {e dp : Int} (h : dp = (a.length : Int) - ((a ++ b).length - ((headL (a ++ b)).length : Nat) : Int) + e) :
    rungQ F least top (numT (valD (a ++ b)) (e - (b.length : Int))) (denT (e - (b.length : Int))) = rungQ F least top (numV (headL (a ++ b)) dp) (denV (headL (a ++ b)) dp) := by
  have hlab : (a ++ b).length = a.length + b.length := List.length_append
  exact (rungQ_same (ten_ne _) (ten_ne _) (dec_eq (L := headL (a ++ b)) (y := valD (a ++ b)) (j := 0) (P := dp) (q := e - (b.length : Int)) (by rw [valD_head, Nat.pow_zero, Nat.mul_one]) (by omega))).symm

theorem rungD_eq (l : List Nat) (p : Int) : rungQ 52 (-1074) 2047 (numV l p) (denV l p) = rungD l p := rfl
set_option maxHeartbeats 1000000 in
set_option maxRecDepth 100000 in
theorem slow_gs64 (a b : List Nat) (neg : Bool) (e : Int) (w : World) (B : Nat) (ha : Digs a) (hb : Digs b) (hla : a.length ≤ 400) (hlb : b.length ≤ 400) (e0 : -1000 < e) (e1 : e < 1000) (hC : Cheat w B) (hP : PowT w B) :
    Calls Tryd.prog 42 #[.string (bs (textL neg a b e))] w (GivesSlow .u64 9223372036854775808 (rungQ 52 (-1074) 2047) (2047 * 2 ^ 52) a b e neg w) := by
  have HA := Lib.hid ha
  have HB := Lib.hid hb
  have hlX : (headL (a ++ b)).length ≤ 800 := by have h1 := headL_le (a ++ b); simp at h1; omega
  have hLd : Hid ((headL (a ++ b)).length ≠ 0 → Lead (headL (a ++ b))) := headL_lead (digs_append ha hb)
  have HC := Lib.hid hC
  have HP := Lib.hid hP
  clear ha hb hC hP
  have D0 := DecBox.new w
  have L0 := below_new w (.cells Tryd.zeroCells90 90)
  have HD := Lib.hid D0
  have HL := Lib.hid L0
  clear D0 L0
  go_enter Tryd.func42, Tryd.ntmps42
  go_wp2_with fail
  generalize w.alloc (.cells Tryd.zeroCells90 90) = W at *
  refine (set_text _ a b neg e _ HA.out HB.out hla hlb e0 e1 HD.out).mono ?_
  rintro r w1 ⟨rfl, D, dp, hd, ht, ho, hp1, hp2, hp3⟩
  have HD1 := Lib.hid hd
  have HT := Lib.hid ht
  have HP3 := Lib.hid hp3
  have hb1 := ho.below (B := w.heap.size) (Nat.le_refl _) HL.out.size
  have HB1 := Lib.hid (HL.out.trans hb1)
  have HO := Lib.hid (ho.below (B := B) HC.out.2.1 (Nat.le_trans HC.out.2.1 HL.out.size))
  clear hd ht ho hp3 hb1
  by_cases hX : 0 < (a ++ b).length
  · have hX2 : decide (0 < (a ++ b).length) = true := decide_eq_true hX
    rw [hX2]
    have hdp := HP3.out hX
    have HR := Lib.hid (slow_same (F := 52) (least := -1074) (top := 2047) (a := a) (b := b) (e := e) hdp |>.trans (rungD_eq _ _))
    have HX := Lib.hid hX
    clear hX hX2 hdp HP3
    go_wp2_with fail
    refine (info_double _).mono ?_
    rintro r2 w2 ⟨fb, rfl, hf, hb2⟩
    have HF := Lib.hid hf
    have HD2 : Hid (DecBox w2 w.heap.size D (headL (a ++ b)).length dp neg false) := HD1.out.later hb2 HD1.out.lt
    have HC2 : Hid (Cheat w2 B) := ((HC.out.later HL.out HC.out.2.1).later HO.out (Nat.le_refl _)).later hb2 (Nat.le_trans HC.out.2.1 HB1.out.size)
    have HP2 : Hid (PowT w2 B) := ((HP.out.later HL.out HP.out.2.1).later HO.out (Nat.le_refl _)).later hb2 (Nat.le_trans HP.out.2.1 HB1.out.size)
    have HB2 := Lib.hid (HB1.out.trans (hb2.mono HB1.out.size))
    have hBb := HC.out.2.1
    clear hf hb2
    go_wp2_with fail
    refine (fb_double w.heap.size fb B D (headL (a ++ b)) dp neg (rungD (headL (a ++ b)) dp) _ HD2.out HT.out hlX HF.out HC2.out HP2.out hBb (fun h => rungD_nil h) (fun h h2 => rungD_big (hLd.out h) hlX h2) (fun h h2 => rungD_small (hLd.out h) hlX h2 (by omega)) (fun M hM h => rungD_val hM (by omega)) hLd.out).mono ?_
    rintro r3 w3 ⟨rfl, ho⟩
    have HB3 := Lib.hid (HB2.out.trans (ho.below (Nat.le_refl _) HB2.out.size))
    clear ho
    have hz0 := HR.out
    obtain ⟨z, hz⟩ : ∃ z : Nat, z = sgnB neg 9223372036854775808 (rungD (headL (a ++ b)) dp) := ⟨_, rfl⟩
    rw [← hz]
    obtain ⟨q, hq⟩ : ∃ q : Bool, q = decide (rungD (headL (a ++ b)) dp = 2047 * 2 ^ 52) := ⟨_, rfl⟩
    rw [← hq]

    have HZ := Lib.hid hz
    have HQ := Lib.hid hq
    have HZ0 := Lib.hid hz0
    clear hz hq hz0
    go_wp2_with fail
    go_ret3
    exact ⟨z, q, by rw [decide_eq_true HX.out]; rfl, fun _ => ⟨by rw [HZ0.out]; exact HZ.out, by rw [HZ0.out]; exact HQ.out⟩, HB3.out⟩
  · have hX2 : decide (0 < (a ++ b).length) = false := decide_eq_false hX
    rw [hX2]
    have HX := Lib.hid hX2
    clear hX hX2 HP3
    go_wp2_with fail
    go_ret3
    exact ⟨0, false, by rw [HX.out]; rfl, fun h => absurd h (of_decide_eq_false HX.out), HB1.out⟩

set_option maxHeartbeats 1000000 in
set_option maxRecDepth 100000 in
theorem slow_out64 (a b : List Nat) (neg : Bool) (e : Int) (w : World) (B : Nat) (ha : Digs a) (hb : Digs b) (hla : a.length ≤ 400) (hlb : b.length ≤ 400) (e0 : -1000 < e) (e1 : e < 1000) (hC : Cheat w B) (hP : PowT w B) :
    Calls Tryd.prog 25 #[.string (bs (textL neg a b e))] w (GivesSlow .u64 9223372036854775808 (rungQ 52 (-1074) 2047) (2047 * 2 ^ 52) a b e neg w) := by
  have HA := Lib.hid ha
  have HB := Lib.hid hb
  have HC := Lib.hid hC
  have HP := Lib.hid hP
  clear ha hb hC hP
  go_enter Tryd.func25, Tryd.ntmps25
  go_wp2_with fail
  refine (slow_gs64 a b neg e _ B HA.out HB.out hla hlb e0 e1 HC.out HP.out).mono ?_
  rintro r w2 ⟨z, q, rfl, hz, hb2⟩
  have HZ := Lib.hid hz
  have HB2 := Lib.hid hb2
  obtain ⟨ok, hok⟩ : ∃ ok, ok = decide (0 < (a ++ b).length) := ⟨_, rfl⟩
  rw [← hok]
  have HK := Lib.hid hok
  clear hz hb2 hok
  go_wp2_with fail
  go_ret3
  exact ⟨z, q, by rw [← HK.out]; rfl, HZ.out, HB2.out⟩
end Go.Proofs.YtfndpecffhempaaDoor
