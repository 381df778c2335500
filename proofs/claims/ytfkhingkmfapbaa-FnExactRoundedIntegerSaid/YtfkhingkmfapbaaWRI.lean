/- The walk of FnExactRoundedInteger: the law returns true. -/
import Derived.Test.YtfkhingkmfapbaaRInt
import Derived.Test.YtfkhingkmfapbaaFlr
import Derived.Test.YtfkhingkmfapbaaWRR
namespace Go.Proofs.Ytfkhingkmfapbaa
open Go.RowKit

/-- RoundedInteger of a decimal number -/
def rintA (l : List Nat) (p : Int) : Nat := if p < 0 then 0 else rI (padL l) l.length p.toNat false
theorem take_pow {l : List Nat} {d : Nat} (hd : Digs l) (_h : d ≤ l.length) : valD l / 10 ^ (l.length - d) = valD (l.take d) ∧ valD l % 10 ^ (l.length - d) = valD (l.drop d) := by
  have e : valD l = valD (l.take d) * 10 ^ (l.length - d) + valD (l.drop d) := by
    have := valD_append (l.take d) (l.drop d)
    rw [List.take_append_drop] at this
    rw [this]; simp
  have hlt : valD (l.drop d) < 10 ^ (l.length - d) := by have := valD_lt (digs_drop hd d); simpa using this
  have hp : 0 < 10 ^ (l.length - d) := Nat.pow_pos (by omega)
  constructor
  · rw [e, Nat.mul_comm, Nat.mul_add_div hp, Nat.div_eq_of_lt hlt, Nat.add_zero]
  · rw [e, Nat.mul_comm, Nat.mul_add_mod, Nat.mod_eq_of_lt hlt]
theorem near_one (n : Nat) : nearN n 1 = n := by
  unfold nearN nearUp
  rw [Nat.mod_one, Nat.div_one]
  simp
theorem odd_take {l : List Nat} {d : Nat} (hd : Digs l) (h : d < l.length) : decide (valD (l.take d) % 2 = 1) = (decide (0 < d) && decide (nth l (d - 1) % 2 = 1)) := by
  by_cases h0 : d = 0
  · subst h0; simp [valD]
  · have e := take_snoc_nth l (k := d - 1) (by omega)
    rw [show d - 1 + 1 = d by omega] at e
    have hc := digs_nth hd (k := d - 1) (by omega)
    rw [decide_eq_true (show 0 < d by omega), Bool.true_and, e, valD_snoc]
    congr 1
    rw [eq_iff_iff]
    omega
theorem rint_near {l : List Nat} {p : Int} (hd : Digs l) (hn : Neat l) : rintA l p = nearN (numV l p) (denV l p) := by
  unfold rintA numV denV
  by_cases h0 : p < 0
  · rw [if_pos h0, show (p - l.length).toNat = 0 by omega, Nat.pow_zero, Nat.mul_one]
    have h1 := valD_lt hd
    have h2 : 10 ^ (l.length + 1) ≤ 10 ^ ((l.length : Int) - p).toNat := ten_le (by omega)
    rw [Nat.pow_succ] at h2
    generalize 10 ^ ((l.length : Int) - p).toNat = Q at *
    unfold nearN nearUp
    rw [Nat.div_eq_of_lt (by omega), Nat.mod_eq_of_lt (by omega), decide_eq_false (by omega), decide_eq_false (by omega)]
    rfl
  · rw [if_neg h0]
    obtain ⟨d, rfl⟩ := Int.eq_ofNat_of_zero_le (show 0 ≤ p by omega)
    rw [Int.toNat_natCast]
    by_cases h1 : l.length ≤ d
    · rw [show ((l.length : Int) - (d : Int)).toNat = 0 by omega, Nat.pow_zero, near_one]
      unfold rI intD shU
      rw [if_pos h1, Nat.min_eq_right h1, padL_take, show ((d : Int) - (l.length : Int)).toNat = d - l.length by omega]
      simp
    · rw [show ((d : Int) - (l.length : Int)).toNat = 0 by omega, Nat.pow_zero, Nat.mul_one, show ((l.length : Int) - (d : Int)).toNat = l.length - d by omega]
      obtain ⟨e1, e2⟩ := take_pow hd (show d ≤ l.length by omega)
      unfold nearN nearUp rI intD
      rw [e1, e2, shU_inc hd hn (by omega), incR_zero, Nat.min_eq_left (by omega), take_padL (by omega), show d - l.length = 0 by omega, Nat.pow_zero, Nat.mul_one, odd_take hd (by omega)]

set_option maxHeartbeats 1000000 in
set_option maxRecDepth 100000 in
theorem rint_gs (l : List Nat) (p : Int) (neg : Bool) (w : World) (hd : Digs l) (hl : l.length ≤ 800) (hp : p ≤ 19) :
    Calls Try.prog 45 #[.agg #[.string (bs l), .int .i64 p, .bool neg, .bool false]] w fun e w' => e = .returned (.int .u64 (rintA l p : Int)) ∧ Below w.heap.size w w' := by
  have HDg := Lib.hid hd
  have HW := Lib.hid (below_new w (.cells #[.string (bs l), .int .i64 p, .bool neg, .bool false] 69))
  clear hd
  go_enter Try.func45, Try.ntmps45
  go_wp2_with fail
  generalize w.alloc (.cells #[.string (bs l), .int .i64 p, .bool neg, .bool false] 69) = W at *
  refine (fromDecimal_any l p neg false _ (bytes_digs HDg.out) hl).mono ?_
  rintro e w1 ⟨b, rfl, hb, hd, hbl⟩
  have HD1 := Lib.hid hd
  have HBl := Lib.hid (HW.out.trans (hbl.mono HW.out.size))
  clear hd hbl
  by_cases h0 : p < 0
  · have E : Hid (rintA l p = 0) := by show _ = _; unfold rintA; rw [if_pos h0]
    go_wp2_with fail
    refine (rint_neg b _ _ _ _ _ _ HD1.out h0).mono ?_
    rintro e w2 ⟨rfl, rfl⟩
    go_wp2_with fail
    go_ret
    exact ⟨ret_int (by rw [E.out]; rfl), HBl.out⟩
  · obtain ⟨d, rfl⟩ := Int.eq_ofNat_of_zero_le (show 0 ≤ p by omega)
    have E : Hid (rintA l d = rI (padL l) l.length d false) := by show _ = _; unfold rintA; rw [if_neg h0, Int.toNat_natCast]
    go_wp2_with fail
    refine (rint_any b _ _ d _ _ _ HD1.out hl (by rw [padL_take]; exact HDg.out) (by omega)).mono ?_
    rintro e w2 ⟨rfl, rfl⟩
    go_wp2_with fail
    go_ret
    exact ⟨ret_int (by rw [E.out]), HBl.out⟩
set_option maxHeartbeats 1000000 in
set_option maxRecDepth 100000 in
theorem rint_out (l : List Nat) (p : Int) (neg : Bool) (w : World) (hd : Digs l) (hl : l.length ≤ 800) (hp : p ≤ 19) :
    Calls Try.prog 18 #[.agg #[.string (bs l), .int .i64 p, .bool neg, .bool false]] w fun e w' => e = .returned (.int .u64 (rintA l p : Int)) ∧ Below w.heap.size w w' := by
  have HDg := Lib.hid hd
  have HW := Lib.hid (below_new w (.cells #[.string (bs l), .int .i64 p, .bool neg, .bool false] 25))
  clear hd
  go_enter Try.func18, Try.ntmps18
  go_wp2_with fail
  generalize w.alloc (.cells #[.string (bs l), .int .i64 p, .bool neg, .bool false] 25) = W at *
  refine (rint_gs l p neg _ HDg.out hl hp).mono ?_
  rintro e w1 ⟨rfl, hbl⟩
  have HBl := Lib.hid (HW.out.trans (hbl.mono HW.out.size))
  clear hbl
  go_wp2_with fail
  go_ret
  exact ⟨rfl, HBl.out⟩

theorem denV_pos (l : List Nat) (p : Int) : 0 < denV l p := Nat.pow_pos (by omega)
theorem numV_small {l : List Nat} {p : Int} (hd : Digs l) (hp : p ≤ 18) : numV l p < denV l p * 2 ^ 63 := by
  unfold numV denV
  have h1 := valD_lt hd
  have h2 : 0 < 10 ^ (p - l.length).toNat := Nat.pow_pos (by omega)
  have h3 := Nat.mul_lt_mul_of_pos_right h1 h2
  rw [← Nat.pow_add] at h3
  have h4 : 10 ^ (l.length + (p - l.length).toNat) ≤ 10 ^ (((l.length : Int) - p).toNat + 18) := ten_le (by omega)
  rw [Nat.pow_add _ _ 18] at h4
  have h5 : 10 ^ (((l.length : Int) - p).toNat) * 10 ^ 18 ≤ 10 ^ (((l.length : Int) - p).toNat) * 2 ^ 63 := Nat.mul_le_mul_left _ (by decide)
  omega

set_option maxHeartbeats 4000000 in
set_option maxRecDepth 100000 in
theorem walk_FnExactRoundedInteger (s : ByteArray) (a1 : Int) (neg : Bool) (w0 : s.size ≤ maxLen) (w1 : (Lit.int .i16 a1).wf = true) (w : World) :
    Calls Try.prog 6 #[.string s, .int .i16 a1, .bool neg] w fun e w' => e = .returned (.bool true) ∧ Below w.heap.size w w' := by
  obtain ⟨l0, rfl, hB, hsz'⟩ := bs_of s
  have hsz := bs_size l0
  have b1 := bounds_i16 w1
  have HBy := Lib.hid hB
  clear w0 w1 hsz' hB
  by_cases hbig : 2147483647 < l0.length
  · have hbig' : (2147483647 : Int) < (l0.length : Int) := by omega
    go_enter Try.func6, Try.ntmps6
    go_wp2_with fail
    go_ret
    exact ⟨rfl, Below.refl _ _⟩
  · have hbig' : ¬ (2147483647 : Int) < (l0.length : Int) := by omega
    have HDg := Lib.hid (sdL_digs l0)
    have HLn := Lib.hid (sdL_len l0)
    have HNt := Lib.hid (sdL_neat l0)
    have HPb := Lib.hid (sdP_bounds l0 a1)
    go_enter Try.func6, Try.ntmps6
    go_wp2_with fail
    refine (sdecimal_any l0 a1 neg _ HBy.out (by omega) (by omega) (by omega)).mono ?_
    rintro e w2 ⟨rfl, hb2⟩
    generalize sdL l0 = l at *
    generalize sdP l0 a1 = p0 at *
    have hl := HLn.out
    obtain ⟨p1, p2⟩ := HPb.out
    obtain ⟨p, hp⟩ : ∃ p, p = min p0 18 := ⟨_, rfl⟩
    have q1 : -400 < p := by omega
    have q2 : p ≤ 18 := by omega
    have HP := Lib.hid hp
    clear hp
    have HB2 := Lib.hid hb2
    clear hb2
    go_upto_region 4 with fail
    go_cut [] (fun wx => Hid (Box wx 25 w2.heap.size #[.string (bs l), .int .i64 p, .bool neg, .bool false] ∧ Below w.heap.size w wx))
    case first =>
      have K : Hid (∀ q, p = q → Box (w2.alloc (.cells #[.string (bs l), .int .i64 q, .bool neg, .bool false] 25)) 25 w2.heap.size #[.string (bs l), .int .i64 p, .bool neg, .bool false] ∧ Below w.heap.size w (w2.alloc (.cells #[.string (bs l), .int .i64 q, .bool neg, .bool false] 25))) := fun q hq => by
        subst hq
        have K := Box.new w2 25 #[.string (bs l), .int .i64 p, .bool neg, .bool false]
        exact ⟨K, HB2.out.alloc HB2.out.size _⟩
      go_wp2_with fail
      all_goals
        go_meet
        exact K.out _ (by have := HP.out; omega)
    case rest =>
      generalize w2.heap.size = g at *
      obtain ⟨KB', KL'⟩ := hcut.out
      have KB := Lib.hid KB'
      have KL := Lib.hid KL'
      clear hcut KB' KL'
      obtain ⟨W, hW⟩ : ∃ W : World, W = wc := ⟨_, rfl⟩
      subst hW
      have S : Hid (∀ w' : World, Below W.heap.size W w' → w'.cell? ⟨g, 0, none⟩ = some (.string (bs l)) ∧ w'.cell? ⟨g, 1, none⟩ = some (.int .i64 p) ∧ w'.cell? ⟨g, 2, none⟩ = some (.bool neg) ∧ w'.cell? ⟨g, 3, none⟩ = some (.bool false)) := fun w' hb => by
        have k3 := KB.out.later hb KB.out.lt
        exact ⟨by rw [k3.cell 0]; rfl, by rw [k3.cell 1]; rfl, by rw [k3.cell 2]; rfl, by rw [k3.cell 3]; rfl⟩
      obtain ⟨c0, c1, c2, c3⟩ := S.out W (Below.refl _ _)
      have E := Lib.hid (rint_near (p := p) HDg.out HNt.out)
      have hE : ((rintA l p : Int) == (nearN (numV l p) (denV l p) : Int)) = true := by rw [E.out]; simp
      have L1 := Lib.hid (numV_len (P := p) HDg.out (by omega) (by omega) (by omega))
      have L2 := Lib.hid (denV_len (L := l) (P := p) (by omega) (by omega))
      have L3 := Lib.hid (numV_small (p := p) HDg.out q2)
      go_upto_region 5 with fail
      go_region_held3 (fun w' => w'.cell? ⟨g, 0, none⟩ = some (.string (bs l)) ∧ w'.cell? ⟨g, 1, none⟩ = some (.int .i64 p) ∧ w'.cell? ⟨g, 2, none⟩ = some (.bool neg) ∧ w'.cell? ⟨g, 3, none⟩ = some (.bool false))
        (first | exact S.out _ hb6 | exact S.out _ hb5 | exact S.out _ hb4 | exact ⟨c0, c1, c2, c3⟩)
        (first
          | (go_at_call 18; refine (rint_out l p neg _ HDg.out (by omega) (by omega)).mono ?_; rintro e' w4 ⟨rfl, hb4'⟩; have hb4 := undrew hb4')
          | (go_at_call 13; refine (value_any l p neg false _ HDg.out (by omega) (by omega) (by omega)).mono ?_; rintro e' w5 ⟨vn5, vd5, rfl, hn5, hd5, hb5'⟩; have hb5 := hb4.trans (hb5'.mono hb4.size))
          | (go_at_call 19; refine (nearest_any _ _ (numV l p) (denV l p) _ hn5 hd5 (denV_pos l p) L3.out (by have := L1.out; omega) (by have := L2.out; omega)).mono ?_; rintro e' w6 ⟨rfl, hb6'⟩; have hb6 := hb5.trans (hb6'.mono hb5.size)))
      all_goals
        have R := Lib.hid (KL.out.trans (hb6.mono KL.out.size))
        clear hn5 hd5 hb4 hb4' hb5 hb5' hb6 hb6' c0 c1 c2 c3
        go_wp2_with fail
        go_ret
        exact ⟨rfl, R.out⟩
end Go.Proofs.Ytfkhingkmfapbaa
