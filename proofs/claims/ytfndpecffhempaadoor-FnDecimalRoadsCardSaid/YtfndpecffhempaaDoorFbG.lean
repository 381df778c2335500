/- FloatBits of the package and of the thin package, by contracts. -/
import Derived.Test.YtfndpecffhempaaDoorFbW
import Derived.Test.YtfndpecffhempaaDoorShW
namespace Go.Proofs.YtfndpecffhempaaDoor
open Go.RowKit

/-- the rung of a decimal number's nearest double -/
def rungD (l : List Nat) (p : Int) : Nat := rungQ 52 (-1074) 2047 (numV l p) (denV l p)
theorem rungD_nil {l : List Nat} {p : Int} (h : l.length = 0) : rungD l p = 0 := by
  rw [List.eq_nil_of_length_eq_zero h]
  unfold rungD rungQ
  rw [if_pos (by simp [numV, valD])]
theorem rungD_val {l : List Nat} {p : Int} {M : Nat} (hM : M = 5000) (h0 : (l.length : Int) ≤ 5000 + p) : rungD l p = rungQ 52 (-1074) 2047 (sv l p) (10 ^ M) := rung_val hM h0
theorem rungD_big {l : List Nat} {p : Int} (hL : Lead l) (hl : l.length ≤ 800) (h0 : 310 < p) : rungD l p = 2047 * 2 ^ 52 := by
  obtain ⟨M, hM⟩ : ∃ M, M = 5000 := ⟨_, rfl⟩
  rw [rungD_val hM (by omega)]
  exact rung_big hM hL hl (by omega) (by omega) (by omega) (by omega) (by omega)
theorem rungD_small {l : List Nat} {p : Int} (hL : Lead l) (hl : l.length ≤ 800) (h0 : p < -330) (h1 : -3000 ≤ p) : rungD l p = 0 := by
  obtain ⟨M, hM⟩ : ∃ M, M = 5000 := ⟨_, rfl⟩
  rw [rungD_val hM (by omega)]
  exact rung_small hM hL hl (by omega) (by omega) (by omega) (by omega) (by omega)
/-- a call hands back a double's bits, and whether it is an infinity -/
def GivesFb (neg : Bool) (r : Nat) (w : World) (e : Ending) (w' : World) : Prop := e = .returned (.tuple #[.int .u64 ((sgnB neg 9223372036854775808 r : Nat) : Int), .bool (decide (r = 2047 * 2 ^ 52))]) ∧ Below w.heap.size w w'

theorem info_double (w : World) : Calls Tryd.prog 50 #[] w fun e w' => ∃ fb, e = .returned (.pointer (some ⟨fb, 0, none⟩)) ∧ FltBox w' fb 52 11 (-1023) ∧ Below w.heap.size w w' := by
  have hK := Box.new w 94 #[.int .u64 52, .int .u64 11, .int .i64 (-1023)]
  go_enter Tryd.func50, Tryd.ntmps50
  go_wp2_with fail
  refine bodyPost_ret (v := .pointer (some ⟨w.heap.size, 0, none⟩)) (by simp [results, Tryd.results50, go_sem]) rfl ⟨_, rfl, hK, ?_⟩
  exact (Below.refl _ _).alloc (Nat.le_refl _) _

set_option maxHeartbeats 1000000 in
set_option maxRecDepth 100000 in
theorem fbits_gs (l : List Nat) (p : Int) (neg : Bool) (w : World) (B : Nat) (hd : l.length ≠ 0 → Lead l) (hB : Bytes l) (hl : l.length ≤ 800) (hC : Cheat w B) (hP : PowT w B) (p0 : -2600 ≤ p) (p1 : p ≤ 2600) :
    Calls Tryd.prog 33 #[.agg #[.string (bs l), .int .i64 p, .bool neg, .bool false]] w (GivesFb neg (rungD l p) w) := by
  have HDg := Lib.hid hd
  have HC := Lib.hid hC
  have HP := Lib.hid hP
  clear hd hC hP
  have HBy := Lib.hid hB
  clear hB
  have hW : Below w.heap.size w (w.alloc (.cells #[.string (bs l), .int .i64 p, .bool neg, .bool false] 61)) := (Below.refl _ _).alloc (Nat.le_refl _) _
  have HW := Lib.hid hW
  clear hW
  go_enter Tryd.func33, Tryd.ntmps33
  go_wp2_with fail
  generalize w.alloc (.cells #[.string (bs l), .int .i64 p, .bool neg, .bool false] 61) = W at *
  refine (fromDecimal_any l p neg false _ HBy.out (by omega)).mono ?_
  rintro e w1 ⟨b, rfl, hb, hd, hbl⟩
  have HD1 := Lib.hid hd
  have HBl := Lib.hid hbl
  clear hd hbl
  have HC1 : Hid (Cheat w1 B) := (HC.out.later HW.out HC.out.2.1).later HBl.out (Nat.le_trans HC.out.2.1 HW.out.size)
  have HP1 : Hid (PowT w1 B) := (HP.out.later HW.out HP.out.2.1).later HBl.out (Nat.le_trans HP.out.2.1 HW.out.size)
  have hBb : B ≤ b := Nat.le_trans HC.out.2.1 (Nat.le_trans HW.out.size hb)
  go_wp2_with fail
  refine (info_double _).mono ?_
  rintro e w2 ⟨fb, rfl, hf, hb2⟩
  have HF := Lib.hid hf
  have HD2 : Hid (DecBox w2 b (padL l) l.length p neg false) := HD1.out.later hb2 HD1.out.lt
  have HC2 : Hid (Cheat w2 B) := HC1.out.later hb2 HC1.out.2.1
  have HP2 : Hid (PowT w2 B) := HP1.out.later hb2 HP1.out.2.1
  have HB2 := Lib.hid (HBl.out.trans (hb2.mono HBl.out.size))
  clear hf hb2
  go_wp2_with fail
  refine (fb_double b fb B (padL l) l p neg (rungD l p) _ HD2.out (padL_take l) hl HF.out HC2.out HP2.out hBb (fun h => rungD_nil h) (fun h h2 => rungD_big (HDg.out h) hl h2) (fun h h2 => rungD_small (HDg.out h) hl h2 (by omega)) (fun M hM h => rungD_val hM (by omega)) HDg.out).mono ?_
  rintro e w3 ⟨rfl, ho⟩
  have HB3 := Lib.hid (HW.out.trans ((HB2.out.trans (ho.below hb HB2.out.size)).mono HW.out.size))
  clear ho
  go_wp2_with fail
  go_ret2
  exact ⟨rfl, HB3.out⟩

set_option maxHeartbeats 1000000 in
set_option maxRecDepth 100000 in
theorem fbits_out (l : List Nat) (p : Int) (neg : Bool) (w : World) (B : Nat) (hd : l.length ≠ 0 → Lead l) (hB : Bytes l) (hl : l.length ≤ 800) (hC : Cheat w B) (hP : PowT w B) (p0 : -2600 ≤ p) (p1 : p ≤ 2600) :
    Calls Tryd.prog 16 #[.agg #[.string (bs l), .int .i64 p, .bool neg, .bool false]] w (GivesFb neg (rungD l p) w) := by
  have HDg := Lib.hid hd
  have HC := Lib.hid hC
  have HP := Lib.hid hP
  clear hd hC hP
  have HBy := Lib.hid hB
  clear hB
  have hW : Below w.heap.size w (w.alloc (.cells #[.string (bs l), .int .i64 p, .bool neg, .bool false] 25)) := (Below.refl _ _).alloc (Nat.le_refl _) _
  have HW := Lib.hid hW
  clear hW
  go_enter Tryd.func16, Tryd.ntmps16
  go_wp2_with fail
  generalize w.alloc (.cells #[.string (bs l), .int .i64 p, .bool neg, .bool false] 25) = W at *
  refine (fbits_gs l p neg _ B HDg.out HBy.out hl (HC.out.later HW.out HC.out.2.1) (HP.out.later HW.out HP.out.2.1) p0 p1).mono ?_
  rintro e w1 ⟨rfl, hb⟩
  have HB3 := Lib.hid (HW.out.trans (hb.mono HW.out.size))
  clear hb
  go_wp2_with fail
  go_ret2
  exact ⟨rfl, HB3.out⟩
end Go.Proofs.YtfndpecffhempaaDoor
