/- leftShift of the package's decimals, by a contract. -/
import Derived.Test.YtfndpecffhempaaDoorPre
import Derived.Test.YtfndpecffhempaaDoorShC
import Derived.Deep.LoopGhost
namespace Go.Proofs.YtfndpecffhempaaDoor
open Go.RowKit

/-- the table leftcheats in memory, below block B -/
def Cheat (w : World) (B : Nat) : Prop :=
  1 < B ∧ B ≤ w.heap.size ∧ ∃ cb co cap, cb < B ∧ w.cell? ⟨1, 0, none⟩ = some (.slice (some ⟨cb, co, none⟩) 61 cap) ∧ ∀ k, k ≤ 60 → w.cell? ⟨cb, co + k * 2, none⟩ = some (.int .i64 (chD k : Int)) ∧ w.cell? ⟨cb, co + k * 2 + 1, none⟩ = some (.string (bs (chC k)))
theorem Cheat.later {w w' : World} {B B' : Nat} (h : Cheat w B) (hb : Below B' w w') (hB : B ≤ B') : Cheat w' B := by
  obtain ⟨h1, h2, cb, co, cap, h3, h4, h5⟩ := h
  refine ⟨h1, Nat.le_trans h2 hb.size, cb, co, cap, h3, ?_, fun k hk => ⟨?_, ?_⟩⟩
  · rw [hb.cell (p := ⟨1, 0, none⟩) (Nat.lt_of_lt_of_le h1 hB)]; exact h4
  · rw [hb.cell (p := ⟨cb, co + k * 2, none⟩) (Nat.lt_of_lt_of_le h3 hB)]; exact (h5 k hk).1
  · rw [hb.cell (p := ⟨cb, co + k * 2 + 1, none⟩) (Nat.lt_of_lt_of_le h3 hB)]; exact (h5 k hk).2
theorem Cheat.only {w w' : World} {B b : Nat} (h : Cheat w B) (ho : Only b w w') (hb : B ≤ b) : Cheat w' B := h.later (ho.below hb h.2.1) (Nat.le_refl _)
theorem Cheat.drewN {w : World} {B : Nat} (h : Cheat w B) (n : Nat) : Cheat (w.drewN n) B := h
theorem Cheat.alloc {w : World} {B : Nat} (h : Cheat w B) (o : Obj) : Cheat (w.alloc o) B := h.later (below_new w o) h.2.1

/-- a shift: it returns nothing, and leaves l, dp, tr times a by c in its block, cut to 800 digits -/
def Shifts (b : Nat) (l : List Nat) (dp : Int) (a c : Nat) (neg tr : Bool) (w : World) (e : Ending) (w' : World) : Prop :=
  e = .returned (.tuple #[]) ∧ ∃ D l' dp' tr', ShP l dp tr a c l' dp' tr' ∧ DecBox w' b D ((l' : List Nat).length : Nat) dp' neg tr' ∧ D.take l'.length = l' ∧ Only b w w'

/-- leftShift's state: i digits are written -/
def LShI (w wr : World) (b : Nat) (l : List Nat) (k m i : Nat) (dp : Int) (neg tr : Bool) : Prop :=
  ∃ D, DecBox wr b D (l.length : Nat) dp neg (tr || trL m (valD l * 2 ^ k) i) ∧ LSt l k m i D ∧ Only b w wr
theorem LShI.put {w wr : World} {b : Nat} {l : List Nat} {k m i p : Nat} {c : Int} {dp : Int} {neg tr : Bool} {D : List Nat} (h : DecBox wr b D (l.length : Nat) dp neg (tr || trL m (valD l * 2 ^ k) i)) (hs : LSt l k m i D) (ho : Only b w wr) (hi : i < m) (hm : l.length ≤ m) (h8 : m - 1 - i < 800) (hp : p = m - 1 - i) (hc : c = ((48 + valD l * 2 ^ k / 10 ^ i % 10 : Nat) : Int)) :
    LShI w (wr.setCell ⟨b, p, none⟩ (.int .u8 c)) b l k m (i + 1) dp neg tr := by
  subst hp hc
  exact ⟨_, by rw [trL_keep h8 hi]; exact h.set h8 (by omega), hs.put h.1 hi hm h8, ho.setCell _ _⟩
theorem LShI.skip0 {w wr : World} {b : Nat} {l : List Nat} {k m i : Nat} {dp : Int} {neg tr : Bool} {D : List Nat} (h : DecBox wr b D (l.length : Nat) dp neg (tr || trL m (valD l * 2 ^ k) i)) (hs : LSt l k m i D) (ho : Only b w wr) (hi : i < m) (h8 : 800 ≤ m - 1 - i) (hz : valD l * 2 ^ k / 10 ^ i % 10 = 0) :
    LShI w wr b l k m (i + 1) dp neg tr :=
  ⟨D, by rw [trL_cut h8, hz]; simpa using h, hs.skip hi h8, ho⟩
theorem LShI.skip1 {w wr : World} {b : Nat} {l : List Nat} {k m i : Nat} {dp : Int} {neg tr : Bool} {D : List Nat} (h : DecBox wr b D (l.length : Nat) dp neg (tr || trL m (valD l * 2 ^ k) i)) (hs : LSt l k m i D) (ho : Only b w wr) (hi : i < m) (h8 : 800 ≤ m - 1 - i) (hz : valD l * 2 ^ k / 10 ^ i % 10 ≠ 0) :
    LShI w (wr.setCell ⟨b, 803, none⟩ (.bool true)) b l k m (i + 1) dp neg tr :=
  ⟨D, by have := h.setTr true
         rw [trL_cut h8, decide_eq_true hz]; simpa using this, hs.skip hi h8, ho.setCell _ _⟩
theorem shift_end {b n : Nat} {D F l : List Nat} {dp dp' : Int} {a c : Nat} {neg tr tr' : Bool} {w W w' : World} {e : Ending} (hm : Makes b D (cut0 D n : Nat) (dpz (cut0 D n) dp') neg tr' W e w') (hD : D.length = 800) (hn : n ≤ 800) (ht : D.take n = F.take 800) (hS : ShP l dp tr a c (tailL (F.take 800)) dp' tr') (ho : Only b w W) : Shifts b l dp a c neg tr w e w' := by
  obtain ⟨rfl, hb, ho2⟩ := hm
  have e1 : D.take (cut0 D n) = tailL (F.take 800) := by rw [take_cut0 D n (by omega), ht]
  have e2 : (tailL (F.take 800)).length = cut0 D n := by rw [← e1, List.length_take]; have := cut0_le D n; omega
  have h0 := hS.lead.1.2.1
  refine ⟨rfl, D, _, dp', tr', hS, ?_, by rw [e2, e1], ho.trans ho2⟩
  rw [dpz_pos (by omega)] at hb
  rw [e2]; exact hb
theorem vdiv_lt {l : List Nat} {k i : Nat} (h : Digs l) (hi : l.length ≤ i) : valD l * 2 ^ k / 10 ^ i < 2 ^ k := by
  rw [Nat.div_lt_iff_lt_mul (Nat.pow_pos (by omega)), Nat.mul_comm (2 ^ k)]
  exact Nat.mul_lt_mul_of_pos_right (Nat.lt_of_lt_of_le (valD_lt h) (Nat.pow_le_pow_right (by omega) hi)) (Nat.pow_pos (by omega))
theorem pow60 {k : Nat} (h : k ≤ 60) : 2 ^ k ≤ 1152921504606846976 := Nat.pow_le_pow_right (n := 2) (by omega) h

set_option maxHeartbeats 4000000 in
set_option maxRecDepth 100000 in
theorem leftShift_any (b B : Nat) (D : List Nat) (l : List Nat) (dp : Int) (neg tr : Bool) (k : Nat) (w : World) (h : DecBox w b D (l.length : Nat) dp neg tr) (ht : D.take l.length = l) (hl : l.length ≤ 800) (hL : Lead l) (k1 : 1 ≤ k) (k2 : k ≤ 60) (hT : Cheat w B) (p0 : -3000 ≤ dp) (p1 : dp ≤ 3000) :
    Calls Tryd.prog 59 #[.pointer (some ⟨b, 0, none⟩), .int .u64 k] w (Shifts b l dp (2 ^ k) 1 neg tr w) := by
  obtain ⟨m1, m2, m3, m4, m5⟩ := mL_facts hL k1 k2
  obtain ⟨q1, q2, q3, q4, q5, q6, q7, q8⟩ := ch_facts k1 k2
  have hmE : mL l k = l.length + chD k - (if ltP l (chC k) then 1 else 0) := rfl
  have H := Lib.hid h
  have HT := Lib.hid ht
  have HL := Lib.hid hL
  have M4 := Lib.hid m4
  have M5 := Lib.hid m5
  have Q6 := Lib.hid q6
  have Q8 := Lib.hid q8
  have hp2 := pow60 k2
  obtain ⟨_, _, cb, co, cap, _, g1, g2⟩ := hT
  obtain ⟨g3, g4⟩ := g2 k k2
  have c0 := h.nd_
  clear h ht hL m4 m5 q1 q2 q5 q6 q8 g2
  have hsl := fun W => slice_dec0 b l.length hl W
  generalize hm : mL l k = m at *
  have HM := Lib.hid hm
  clear hm
  have hlC : (chC k).length ≤ 100 := by omega
  go_enter Tryd.func59, Tryd.ntmps59
  go_wp2_with fail
  go_quiet ((go_at_call 64; exact Calls.quiet_of (prefix_any b D l (chC k) _ _ _ _ _ (H.out.drewN _) HT.out hl HL.out.1 Q6.out hlC Q8.out)))
  generalize hbb : ltP l (chC k) = bb at *
  have HW0 : Hid (∃ q, w.drewN nq = w.drewN q) := ⟨nq, rfl⟩
  have H1 : Hid (DecBox (w.drewN nq) b D (l.length : Nat) dp neg tr) := H.out.drewN nq
  have O1 : Hid (Only b w (w.drewN nq)) := (Only.refl b w).drewN nq
  generalize w.drewN nq = w1 at *
  have HBB := Lib.hid hbb
  have HME := Lib.hid hmE
  clear hbb hmE c0 g1 g3 g4 hsl
  go_upto_if 30 with fail
  go_cut [4] (fun d wx => d = .int .i64 ((m : Int) - (l.length : Int)) ∧ wx = w1)
  case first =>
    cases bb
    · have e : (chD k : Int) = (m : Int) - (l.length : Int) := by have := HME.out; simp at this; omega
      have E := Lib.hid e
      clear e
      go_wp2_with fail
      go_meet
      exact ⟨by rw [E.out], rfl⟩
    · have e : (chD k : Int) - 1 = (m : Int) - (l.length : Int) := by have := HME.out; simp at this; omega
      have E := Lib.hid e
      clear e
      go_wp2_with fail
      go_meet
      exact ⟨by rw [E.out], rfl⟩
  case rest =>
    obtain ⟨rfl, rfl⟩ := hcut
    have c0 := H1.out.nd_
    have hwr : IntKind.i64.wrap ((l.length : Int) + ((m : Int) - (l.length : Int))) = (m : Int) := by rw [IntWalk.i64_in _ (by omega)]; omega
    go_wp2_with fail
    obtain ⟨w1, rfl⟩ : ∃ w1 : World, w1 = wc := ⟨_, rfl⟩
    go_loopw [5, 6, 7] (fun r wi n wr => ∃ i : Nat, i ≤ l.length ∧ r = .int .i64 ((l.length : Int) - 1 - (i : Int)) ∧ wi = .int .i64 ((m : Int) - (i : Int)) ∧ n = .int .u64 (cL l k i : Nat) ∧ Hid (LShI w wr b l k m i dp neg tr)) (fun r _ _ _ => (intOf r + 1).toNat)
    case atStart => exact ⟨0, by omega, by go_num, by go_num, by rw [cL_zero]; rfl, ⟨D, by rw [trL_zero, Bool.or_false]; exact H1.out, LSt.start HT.out, O1.out⟩⟩
    case round =>
      obtain ⟨i, hi, rfl, rfl, rfl, hst⟩ := hrel
      by_cases hlt : i < l.length
      · obtain ⟨r, hr⟩ : ∃ r : Nat, r = l.length - 1 - i := ⟨_, rfl⟩
        obtain ⟨p, hp⟩ : ∃ p : Nat, p = m - 1 - i := ⟨_, rfl⟩
        rw [show (l.length : Int) - 1 - (i : Int) = (r : Int) by omega, show (m : Int) - (i : Int) = (p : Int) + 1 by omega]
        obtain ⟨D2, hd2, hs2, ho2⟩ := hst.out
        have hr8 : r < 800 := by omega
        have hp9 : (p : Int) ≤ 900 := by omega
        have g0 := hd2.at_ (i := r) hr8
        have e1 : nth D2 r = nth l r := hs2.2 r (by omega)
        rw [e1] at g0
        obtain ⟨hx1, hx2⟩ := digs_nth HL.out.1 (k := r) (by omega)
        obtain ⟨s1, s2⟩ := cL_step (l := l) k i hlt
        rw [← hr] at s1 s2
        have hc9 := cL_lt HL.out.1 k i (by omega)
        obtain ⟨T, hTt⟩ : ∃ T : Nat, T = cL l k i + (nth l r - 48) * 2 ^ k := ⟨_, rfl⟩
        obtain ⟨X, hX⟩ : ∃ X : Nat, X = (nth l r - 48) * 2 ^ k := ⟨_, rfl⟩
        have hX9 : X ≤ 9 * 2 ^ k := by rw [hX]; exact Nat.mul_le_mul_right _ (by omega)
        have hT9 : T < 18446744073709551616 := by omega
        have w1 : IntKind.u64.wrap (((nth l r : Nat) : Int) - 48) = ((nth l r : Nat) : Int) - 48 := IntWalk.u64_in _ (by omega)
        have w2 : IntKind.u64.wrap ((((nth l r : Nat) : Int) - 48) * 2 ^ k) = (X : Int) := by
          have e : (((nth l r : Nat) : Int) - 48) * 2 ^ k = (X : Int) := by rw [hX, Int.natCast_mul, Int.natCast_pow]; congr 1; omega
          rw [e]; exact IntWalk.u64_in _ (by omega)
        have w3 : IntKind.u64.wrap (((cL l k i : Nat) : Int) + (X : Int)) = (T : Int) := by rw [IntWalk.u64_in _ (by omega)]; omega
        rw [← hTt] at s1 s2
        have S1 := Lib.hid s1
        have S2 := Lib.hid s2
        have HP := Lib.hid hp
        have HR := Lib.hid hr
        have HD2 := Lib.hid hd2
        have HS2 := Lib.hid hs2
        have HO2 := Lib.hid ho2
        generalize cL l k i = c at *
        generalize nth l r = x at *
        clear s1 s2 hp hr hd2 hs2 ho2 e1 hst hc9 hTt hX hX9
        by_cases hp8 : p < 800
        · have hp8' : (p : Int) < 800 := by omega
          have f0 := HD2.out.free p
          have k0 := HD2.out.at_ (i := p) hp8
          go_wp2_with fail
          go_roundw
          case rel => exact ⟨i + 1, by omega, by have := HR.out; go_num, by have := HP.out; go_num, by rw [← S1.out]; go_num, LShI.put HD2.out HS2.out HO2.out (by omega) (by omega) (by have := HP.out; omega) HP.out (by rw [← S2.out]; omega)⟩
          case measure => simp [intOf]
        · have hp8' : decide ((p : Int) < 800) = false := by simp; omega
          have c3 := HD2.out.tr_
          have f3 := HD2.out.free 803
          by_cases hz : T % 10 = 0
          · have hz' : ((T : Int) - 10 * ((T : Int) / 10) != 0) = false := by simp; omega
            have HZ := Lib.hid hz
            clear hz
            go_wp2_with fail
            go_roundw
            case rel => exact ⟨i + 1, by omega, by have := HR.out; go_num, by have := HP.out; go_num, by rw [← S1.out]; go_num, LShI.skip0 HD2.out HS2.out HO2.out (by omega) (by have := HP.out; omega) (by rw [← S2.out]; exact HZ.out)⟩
            case measure => simp [intOf]
          · have hz' : ((T : Int) - 10 * ((T : Int) / 10) != 0) = true := by simp; omega
            have HZ := Lib.hid hz
            clear hz
            go_wp2_with fail
            go_roundw
            case rel => exact ⟨i + 1, by omega, by have := HR.out; go_num, by have := HP.out; go_num, by rw [← S1.out]; go_num, LShI.skip1 HD2.out HS2.out HO2.out (by omega) (by have := HP.out; omega) (by rw [← S2.out]; exact HZ.out)⟩
            case measure => simp [intOf]
      · obtain rfl : i = l.length := by omega
        rw [show (l.length : Int) - 1 - (l.length : Int) = -1 by omega, cL_end]
        go_wp2_with fail
        obtain ⟨wo, rfl⟩ : ∃ wo : World, wo = wr := ⟨_, rfl⟩
        go_loopw [6, 7] (fun wi n wr => ∃ i : Nat, l.length ≤ i ∧ i ≤ m ∧ wi = .int .i64 ((m : Int) - (i : Int)) ∧ n = .int .u64 ((valD l * 2 ^ k / 10 ^ i : Nat) : Int) ∧ Hid (LShI w wr b l k m i dp neg tr)) (fun r _ _ => (intOf r).toNat)
        case atStart => exact ⟨l.length, by omega, by omega, rfl, rfl, hst⟩
        case round =>
          obtain ⟨i, hi, him, rfl, rfl, hst⟩ := hrel
          have hN9 := vdiv_lt (k := k) HL.out.1 hi
          by_cases hN : valD l * 2 ^ k / 10 ^ i = 0
          · have him2 : i = m := by
              have h1 : valD l * 2 ^ k < 10 ^ i := by
                rcases Nat.lt_or_ge (valD l * 2 ^ k) (10 ^ i) with h | h
                · exact h
                · have := Nat.div_pos h (Nat.pow_pos (by omega)); omega
              have h2 := Nat.lt_of_le_of_lt M4.out h1
              have := (Nat.pow_lt_pow_iff_right (a := 10) (by omega)).1 h2
              omega
            subst him2
            obtain ⟨D2, hd2, hs2, ho2⟩ := hst.out
            rw [hN]
            have hS := shP_left (l := l) (dp := dp) tr (by omega) M4.out M5.out m3 m2
            have ht2 := hs2.done hd2.1
            have n0 := hd2.nd_
            have f0 := hd2.free 800
            have hw1 : IntKind.i64.wrap ((l.length : Int) + ((i : Int) - (l.length : Int))) = (i : Int) := by rw [IntWalk.i64_in _ (by omega)]; omega
            have hw1' : (l.length : Int) + ((i : Int) - (l.length : Int)) = (i : Int) := by omega
            have hS2 := Lib.hid hS
            have HT2 := Lib.hid ht2
            have HO2 := Lib.hid ho2
            have hd3 := hd2.setNd (i : Int)
            have ho3 := ho2.setCell 800 (.int .i64 (i : Int))
            have n1 := hd3.nd_
            have f1 := hd3.free 800
            have hlen := hd2.1
            have HLn := Lib.hid hlen
            by_cases h8 : 800 ≤ i
            · have h8' : decide ((800 : Int) ≤ (i : Int)) = true := by simp; omega
              have hd4 := hd3.setNd 800
              have ho4 := ho3.setCell 800 (.int .i64 800)
              have n2 := hd4.dp_
              have f2 := hd4.free 801
              have hd5 := hd4.setDp (dp + ((i : Int) - (l.length : Int)))
              have ho5 := ho4.setCell 801 (.int .i64 (dp + ((i : Int) - (l.length : Int))))
              have HD5 := Lib.hid hd5
              have HO5 := Lib.hid ho5
              have HM8 : Hid (min i 800 = 800) := by show _ = _; omega
              clear hS ht2 ho2 hd2 hs2 hst hd3 ho3 hd4 ho4 hd5 ho5 hlen hN hN9 h8
              go_wp2_with fail
              refine (trimD_any b D2 800 _ _ _ _ HD5.out (by omega)).mono ?_
              rintro e w2 hm
              obtain rfl := hm.1
              have HMk := Lib.hid hm
              clear hm
              go_wp2_with fail
              go_end0
              exact shift_end HMk.out HLn.out (by omega) (by have := HT2.out; rwa [HM8.out] at this) hS2.out HO5.out
            · have h8' : decide ((800 : Int) ≤ (i : Int)) = false := by simp; omega
              have n2 := hd3.dp_
              have f2 := hd3.free 801
              have hd5 := hd3.setDp (dp + ((i : Int) - (l.length : Int)))
              have ho5 := ho3.setCell 801 (.int .i64 (dp + ((i : Int) - (l.length : Int))))
              have HD5 := Lib.hid hd5
              have HO5 := Lib.hid ho5
              have HM8 : Hid (min i 800 = i) := by show _ = _; omega
              have hi8 : i ≤ 800 := by omega
              clear hS ht2 ho2 hd2 hs2 hst hd3 ho3 hd5 ho5 hlen hN hN9 h8
              go_wp2_with fail
              refine (trimD_any b D2 i _ _ _ _ HD5.out hi8).mono ?_
              rintro e w2 hm
              obtain rfl := hm.1
              have HMk := Lib.hid hm
              clear hm
              go_wp2_with fail
              go_end0
              exact shift_end HMk.out HLn.out hi8 (by have := HT2.out; rwa [HM8.out] at this) hS2.out HO5.out
          · obtain ⟨T, hT⟩ : ∃ T : Nat, T = valD l * 2 ^ k / 10 ^ i := ⟨_, rfl⟩
            have s1 : T / 10 = valD l * 2 ^ k / 10 ^ (i + 1) := by rw [hT, Nat.div_div_eq_div_mul, Nat.pow_succ]
            have him3 : i < m := by
              rcases Nat.lt_or_ge i m with h | h
              · exact h
              · exfalso; apply hN
                exact Nat.div_eq_of_lt (Nat.lt_of_lt_of_le M5.out (Nat.pow_le_pow_right (by omega) h))
            obtain ⟨p, hp⟩ : ∃ p : Nat, p = m - 1 - i := ⟨_, rfl⟩
            rw [show (m : Int) - (i : Int) = (p : Int) + 1 by omega]
            obtain ⟨D2, hd2, hs2, ho2⟩ := hst.out
            have hp9 : (p : Int) ≤ 900 := by omega
            have hT9 : T < 18446744073709551616 := by omega
            have hT1 : 0 < T := by omega
            rw [← hT]
            have HTT := Lib.hid hT
            have S1 := Lib.hid s1
            have HP := Lib.hid hp
            have HD2 := Lib.hid hd2
            have HS2 := Lib.hid hs2
            have HO2 := Lib.hid ho2
            clear s1 hp hd2 hs2 ho2 hst hT hN hN9
            by_cases hp8 : p < 800
            · have hp8' : (p : Int) < 800 := by omega
              have f0 := HD2.out.free p
              have k0 := HD2.out.at_ (i := p) hp8
              go_wp2_with fail
              go_roundw
              case rel => exact ⟨i + 1, by omega, by omega, by have := HP.out; go_num, by rw [← S1.out]; go_num, LShI.put HD2.out HS2.out HO2.out (by omega) (by omega) (by have := HP.out; omega) HP.out (by rw [← HTT.out]; omega)⟩
              case measure => simp [intOf]
            · have hp8' : decide ((p : Int) < 800) = false := by simp; omega
              have c3 := HD2.out.tr_
              have f3 := HD2.out.free 803
              by_cases hz : T % 10 = 0
              · have hz' : ((T : Int) - 10 * ((T : Int) / 10) != 0) = false := by simp; omega
                have HZ := Lib.hid hz
                clear hz
                go_wp2_with fail
                go_roundw
                case rel => exact ⟨i + 1, by omega, by omega, by have := HP.out; go_num, by rw [← S1.out]; go_num, LShI.skip0 HD2.out HS2.out HO2.out (by omega) (by have := HP.out; omega) (by rw [← HTT.out]; exact HZ.out)⟩
                case measure => simp [intOf]
              · have hz' : ((T : Int) - 10 * ((T : Int) / 10) != 0) = true := by simp; omega
                have HZ := Lib.hid hz
                clear hz
                go_wp2_with fail
                go_roundw
                case rel => exact ⟨i + 1, by omega, by omega, by have := HP.out; go_num, by rw [← S1.out]; go_num, LShI.skip1 HD2.out HS2.out HO2.out (by omega) (by have := HP.out; omega) (by rw [← HTT.out]; exact HZ.out)⟩
                case measure => simp [intOf]
end Go.Proofs.YtfndpecffhempaaDoor
