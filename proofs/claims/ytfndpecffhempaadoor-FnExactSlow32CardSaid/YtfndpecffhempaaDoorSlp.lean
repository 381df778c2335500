/- Slow32 of the package and of the thin package, by contracts. Written by gen_slow.py. -/
import Derived.Test.YtfndpecffhempaaDoorFbV
import Derived.Test.YtfndpecffhempaaDoorSlo
import Derived.Test.YtfndpecffhempaaDoorPars
import Derived.Test.YtfndpecffhempaaDoorTid
namespace Go.Proofs.YtfndpecffhempaaDoor
open Go.RowKit

/-- the rung of a decimal number's nearest single -/
def rungS (l : List Nat) (p : Int) : Nat := rungQ 23 (-149) 255 (numV l p) (denV l p)
theorem rungS_nil {l : List Nat} {p : Int} (h : l.length = 0) : rungS l p = 0 := by
  rw [List.eq_nil_of_length_eq_zero h]
  unfold rungS rungQ
  rw [if_pos (by simp [numV, valD])]
theorem rungS_val {l : List Nat} {p : Int} {M : Nat} (hM : M = 5000) (h0 : (l.length : Int) ≤ 5000 + p) : rungS l p = rungQ 23 (-149) 255 (sv l p) (10 ^ M) := rung_val hM h0
theorem rungS_big {l : List Nat} {p : Int} (hL : Lead l) (hl : l.length ≤ 800) (h0 : 310 < p) : rungS l p = 255 * 2 ^ 23 := by
  obtain ⟨M, hM⟩ : ∃ M, M = 5000 := ⟨_, rfl⟩
  rw [rungS_val hM (by omega)]
  exact rung_big hM hL hl (by omega) (by omega) (by omega) (by omega) (by omega)
theorem rungS_small {l : List Nat} {p : Int} (hL : Lead l) (hl : l.length ≤ 800) (h0 : p < -330) (h1 : -3000 ≤ p) : rungS l p = 0 := by
  obtain ⟨M, hM⟩ : ∃ M, M = 5000 := ⟨_, rfl⟩
  rw [rungS_val hM (by omega)]
  exact rung_small hM hL hl (by omega) (by omega) (by omega) (by omega) (by omega)
theorem info_single (w : World) : Calls Tryd.prog 58 #[] w fun e w' => ∃ fb, e = .returned (.pointer (some ⟨fb, 0, none⟩)) ∧ FltBox w' fb 23 8 (-127) ∧ Below w.heap.size w w' := by
  have hK := Box.new w 94 #[.int .u64 23, .int .u64 8, .int .i64 (-127)]
  go_enter Tryd.func58, Tryd.ntmps58
  go_wp2_with fail
  refine bodyPost_ret (v := .pointer (some ⟨w.heap.size, 0, none⟩)) (by simp [results, Tryd.results58, go_sem]) rfl ⟨_, rfl, hK, ?_⟩
  exact (Below.refl _ _).alloc (Nat.le_refl _) _
theorem sgn_low32 {r : Nat} (h : r ≤ 255 * 2 ^ 23) (neg : Bool) : sgnB neg 2147483648 r < 4294967296 := by
  unfold sgnB
  split
  · exact Nat.or_lt_two_pow (n := 32) (by decide) (by omega)
  · omega
theorem rungQ_le (F top num den : Nat) (least : Int) : rungQ F least top num den ≤ top * 2 ^ F := by
  unfold rungQ
  split
  · exact Nat.zero_le _
  · exact Nat.min_le_right _ _

theorem rungS_eq (l : List Nat) (p : Int) : rungQ 23 (-149) 255 (numV l p) (denV l p) = rungS l p := rfl
set_option maxHeartbeats 1000000 in
set_option maxRecDepth 100000 in
theorem slow_gs32 (a b : List Nat) (neg : Bool) (e : Int) (w : World) (B : Nat) (ha : Digs a) (hb : Digs b) (hla : a.length ≤ 400) (hlb : b.length ≤ 400) (e0 : -1000 < e) (e1 : e < 1000) (hC : Cheat w B) (hP : PowT w B) :
    Calls Tryd.prog 36 #[.string (bs (textL neg a b e))] w (GivesSlow .u32 2147483648 (rungQ 23 (-149) 255) (255 * 2 ^ 23) a b e neg w) := by
  have HA := Lib.hid ha
  have HB := Lib.hid hb
  have hlX : (headL (a ++ b)).length ≤ 800 := by have h1 := headL_le (a ++ b); simp at h1; omega
  have hLd : Hid ((headL (a ++ b)).length ≠ 0 → Lead (headL (a ++ b))) := headL_lead (digs_append ha hb)
  have HC := Lib.hid hC
  have HP := Lib.hid hP
  clear ha hb hC hP
  have D0 := DecBox.new w
  have L0 := below_new w (.cells Tryd.zeroCells90 90)
  have HD := Lib.hid D0
  have HL := Lib.hid L0
  clear D0 L0
  go_enter Tryd.func36, Tryd.ntmps36
  go_wp2_with fail
  generalize w.alloc (.cells Tryd.zeroCells90 90) = W at *
  refine (set_text _ a b neg e _ HA.out HB.out hla hlb e0 e1 HD.out).mono ?_
  rintro r w1 ⟨rfl, D, dp, hd, ht, ho, hp1, hp2, hp3⟩
  have HD1 := Lib.hid hd
  have HT := Lib.hid ht
  have HP3 := Lib.hid hp3
  have hb1 := ho.below (B := w.heap.size) (Nat.le_refl _) HL.out.size
  have HB1 := Lib.hid (HL.out.trans hb1)
  have HO := Lib.hid (ho.below (B := B) HC.out.2.1 (Nat.le_trans HC.out.2.1 HL.out.size))
  clear hd ht ho hp3 hb1
  by_cases hX : 0 < (a ++ b).length
  · have hX2 : decide (0 < (a ++ b).length) = true := decide_eq_true hX
    rw [hX2]
    have hdp := HP3.out hX
    have HR := Lib.hid (slow_same (F := 23) (least := -149) (top := 255) (a := a) (b := b) (e := e) hdp |>.trans (rungS_eq _ _))
    have HX := Lib.hid hX
    clear hX hX2 hdp HP3
    go_wp2_with fail
    refine (info_single _).mono ?_
    rintro r2 w2 ⟨fb, rfl, hf, hb2⟩
    have HF := Lib.hid hf
    have HD2 : Hid (DecBox w2 w.heap.size D (headL (a ++ b)).length dp neg false) := HD1.out.later hb2 HD1.out.lt
    have HC2 : Hid (Cheat w2 B) := ((HC.out.later HL.out HC.out.2.1).later HO.out (Nat.le_refl _)).later hb2 (Nat.le_trans HC.out.2.1 HB1.out.size)
    have HP2 : Hid (PowT w2 B) := ((HP.out.later HL.out HP.out.2.1).later HO.out (Nat.le_refl _)).later hb2 (Nat.le_trans HP.out.2.1 HB1.out.size)
    have HB2 := Lib.hid (HB1.out.trans (hb2.mono HB1.out.size))
    have hBb := HC.out.2.1
    clear hf hb2
    go_wp2_with fail
    refine (fb_single w.heap.size fb B D (headL (a ++ b)) dp neg (rungS (headL (a ++ b)) dp) _ HD2.out HT.out hlX HF.out HC2.out HP2.out hBb (fun h => rungS_nil h) (fun h h2 => rungS_big (hLd.out h) hlX h2) (fun h h2 => rungS_small (hLd.out h) hlX h2 (by omega)) (fun M hM h => rungS_val hM (by omega)) hLd.out).mono ?_
    rintro r3 w3 ⟨rfl, ho⟩
    have HB3 := Lib.hid (HB2.out.trans (ho.below (Nat.le_refl _) HB2.out.size))
    clear ho
    have hz0 := HR.out
    obtain ⟨z, hz⟩ : ∃ z : Nat, z = sgnB neg 2147483648 (rungS (headL (a ++ b)) dp) := ⟨_, rfl⟩
    rw [← hz]
    obtain ⟨q, hq⟩ : ∃ q : Bool, q = decide (rungS (headL (a ++ b)) dp = 255 * 2 ^ 23) := ⟨_, rfl⟩
    rw [← hq]
    have hz4 : z < 4294967296 := by rw [hz]; exact sgn_low32 (rungQ_le 23 255 _ _ _) neg
    have hw32 : IntKind.u32.wrap (z : Int) = (z : Int) := IntWalk.u32_in _ (by omega)
    have HZ := Lib.hid hz
    have HQ := Lib.hid hq
    have HZ0 := Lib.hid hz0
    clear hz hq hz0
    go_wp2_with fail
    go_ret3
    exact ⟨z, q, by rw [decide_eq_true HX.out]; rfl, fun _ => ⟨by rw [HZ0.out]; exact HZ.out, by rw [HZ0.out]; exact HQ.out⟩, HB3.out⟩
  · have hX2 : decide (0 < (a ++ b).length) = false := decide_eq_false hX
    rw [hX2]
    have HX := Lib.hid hX2
    clear hX hX2 HP3
    go_wp2_with fail
    go_ret3
    exact ⟨0, false, by rw [HX.out]; rfl, fun h => absurd h (of_decide_eq_false HX.out), HB1.out⟩

set_option maxHeartbeats 1000000 in
set_option maxRecDepth 100000 in
theorem slow_out32 (a b : List Nat) (neg : Bool) (e : Int) (w : World) (B : Nat) (ha : Digs a) (hb : Digs b) (hla : a.length ≤ 400) (hlb : b.length ≤ 400) (e0 : -1000 < e) (e1 : e < 1000) (hC : Cheat w B) (hP : PowT w B) :
    Calls Tryd.prog 20 #[.string (bs (textL neg a b e))] w (GivesSlow .u32 2147483648 (rungQ 23 (-149) 255) (255 * 2 ^ 23) a b e neg w) := by
  have HA := Lib.hid ha
  have HB := Lib.hid hb
  have HC := Lib.hid hC
  have HP := Lib.hid hP
  clear ha hb hC hP
  go_enter Tryd.func20, Tryd.ntmps20
  go_wp2_with fail
  refine (slow_gs32 a b neg e _ B HA.out HB.out hla hlb e0 e1 HC.out HP.out).mono ?_
  rintro r w2 ⟨z, q, rfl, hz, hb2⟩
  have HZ := Lib.hid hz
  have HB2 := Lib.hid hb2
  obtain ⟨ok, hok⟩ : ∃ ok, ok = decide (0 < (a ++ b).length) := ⟨_, rfl⟩
  rw [← hok]
  have HK := Lib.hid hok
  clear hz hb2 hok
  go_wp2_with fail
  go_ret3
  exact ⟨z, q, by rw [← HK.out]; rfl, HZ.out, HB2.out⟩
end Go.Proofs.YtfndpecffhempaaDoor
