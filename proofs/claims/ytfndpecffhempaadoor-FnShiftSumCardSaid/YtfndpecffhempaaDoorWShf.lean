/- The walk of FnExactShift: the law returns true. -/
import Derived.Test.YtfndpecffhempaaDoorShL
import Derived.Test.YtfndpecffhempaaDoorShW
import Derived.Test.YtfndpecffhempaaDoorSfd
import Derived.Test.YtfndpecffhempaaDoorLay
namespace Go.Proofs.YtfndpecffhempaaDoor
open Go.RowKit

set_option maxHeartbeats 4000000 in
set_option maxRecDepth 100000 in
theorem walk_FnExactShift (s : ByteArray) (a1 : Int) (neg : Bool) (K : Int) (w0 : s.size ≤ maxLen) (w1 : (Lit.int .i16 a1).wf = true) (w3 : (Lit.int .i8 K).wf = true) (w : World) (hT : Cheat w w.heap.size) :
    Calls Tryd.prog 3 #[.string s, .int .i16 a1, .bool neg, .int .i8 K] w fun e w' => e = .returned (.bool true) ∧ Below w.heap.size w w' := by
  obtain ⟨l0, rfl, hB, hsz'⟩ := bs_of s
  have hsz := bs_size l0
  have b1 := bounds_i16 w1
  have b3 := bounds_i8 w3
  have HBy := Lib.hid hB
  have HC := Lib.hid hT
  clear w0 w1 w3 hsz' hB hT
  by_cases hbig : 2147483647 < l0.length
  · have hbig' : (2147483647 : Int) < (l0.length : Int) := by omega
    go_enter Tryd.func3, Tryd.ntmps3
    go_wp2_with fail
    go_ret
    exact ⟨rfl, Below.refl _ _⟩
  · have hbig' : ¬ (2147483647 : Int) < (l0.length : Int) := by omega
    have HDg := Lib.hid (sdL_digs l0)
    have HLn := Lib.hid (sdL_len l0)
    have HTd := Lib.hid (sd_tidy l0 a1)
    have HPb := Lib.hid (sdP_bounds l0 a1)
    go_enter Tryd.func3, Tryd.ntmps3
    go_wp2_with fail
    refine (sdecimal_any l0 a1 neg _ HBy.out (by omega) (by omega) (by omega)).mono ?_
    rintro e w2 ⟨rfl, hb2⟩
    generalize sdL l0 = l at *
    generalize sdP l0 a1 = p at *
    have hl := HLn.out
    obtain ⟨p0, p1⟩ := HPb.out
    have HB2 := Lib.hid (hb2.alloc hb2.size (.cells #[.string (bs l), .int .i64 p, .bool neg, .bool false] 25))
    have HK2 := Lib.hid (Box.new w2 25 #[.string (bs l), .int .i64 p, .bool neg, .bool false])
    clear hb2
    go_wp2_with fail
    generalize w2.alloc (.cells #[.string (bs l), .int .i64 p, .bool neg, .bool false] 25) = W2 at *
    generalize w2.heap.size = g at *
    refine (shift_out l K p neg false _ w.heap.size HTd.out.lead (digs_bytes HDg.out) (by omega) (HC.out.later HB2.out (Nat.le_refl _)) (by omega) (by omega) (by omega) (by omega)).mono ?_
    rintro e w3 ⟨L, P, tr, hq, rfl, hb3⟩
    have HQ := Lib.hid (shK_exact hq HTd.out (by omega) (by omega) (by omega) (by omega) (by omega))
    obtain ⟨rfl, hLL, hP0, hP1, hTL, hsv, _⟩ := HQ.out
    have HTL := Lib.hid hTL
    have E := Lib.hid (val_shifted rfl (by omega) (by omega) hsv)
    clear hq HQ hTL hsv
    have hszL := bs_size L
    have hLL' : ¬ (800 : Int) < (L.length : Int) := by omega
    have hP0' : ¬ P < -2000 := by omega
    have hP1' : ¬ (2000 : Int) < P := by omega
    have HB3 := Lib.hid ((HB2.out.trans (hb3.mono HB2.out.size)).alloc (HB2.out.trans (hb3.mono HB2.out.size)).size (.cells #[.string (bs L), .int .i64 P, .bool neg, .bool false] 25))
    have HK3 := Lib.hid ((HK2.out.later hb3 HK2.out.lt).alloc (.cells #[.string (bs L), .int .i64 P, .bool neg, .bool false] 25))
    have HK4 := Lib.hid (Box.new w3 25 #[.string (bs L), .int .i64 P, .bool neg, .bool false])
    clear hb3
    go_upto_region 7 with fail
    generalize w3.alloc (.cells #[.string (bs L), .int .i64 P, .bool neg, .bool false] 25) = W at *
    generalize w3.heap.size = h at *
    have d0 : W.cell? ⟨g, 0, none⟩ = some (.string (bs l)) := by rw [HK3.out.cell 0]; rfl
    have d1 : W.cell? ⟨g, 1, none⟩ = some (.int .i64 p) := by rw [HK3.out.cell 1]; rfl
    have d2 : W.cell? ⟨g, 2, none⟩ = some (.bool neg) := by rw [HK3.out.cell 2]; rfl
    have d3 : W.cell? ⟨g, 3, none⟩ = some (.bool false) := by rw [HK3.out.cell 3]; rfl
    go_wp2_with fail
    refine (value_any l p neg false _ HDg.out (by omega) (by omega) (by omega)).mono ?_
    rintro e w4 ⟨vn, vd, rfl, hn, hd, hb4⟩
    obtain ⟨An, cn, rfl, _, _⟩ := natLen_shape hn
    obtain ⟨Ad, cd, rfl, _, _⟩ := natLen_shape hd
    have HN := Lib.hid (hn.alloc (.cells #[.slice An (Num.len (numV l p)) cn, .slice Ad (Num.len (denV l p)) cd] 31))
    have HD := Lib.hid (hd.alloc (.cells #[.slice An (Num.len (numV l p)) cn, .slice Ad (Num.len (denV l p)) cd] 31))
    have HB5 := Lib.hid ((HB3.out.trans (hb4.mono HB3.out.size)).alloc (HB3.out.trans (hb4.mono HB3.out.size)).size (.cells #[.slice An (Num.len (numV l p)) cn, .slice Ad (Num.len (denV l p)) cd] 31))
    have HK5 := Lib.hid ((HK4.out.later hb4 HK4.out.lt).alloc (.cells #[.slice An (Num.len (numV l p)) cn, .slice Ad (Num.len (denV l p)) cd] 31))
    have HK6 := Lib.hid (Box.new w4 31 #[.slice An (Num.len (numV l p)) cn, .slice Ad (Num.len (denV l p)) cd])
    clear d0 d1 d2 d3 hn hd hb4
    go_upto_region 8 with fail
    generalize w4.alloc (.cells #[.slice An (Num.len (numV l p)) cn, .slice Ad (Num.len (denV l p)) cd] 31) = W5 at *
    generalize w4.heap.size = r at *
    have S : Hid (∀ w' : World, Below W5.heap.size W5 w' → (w'.cell? ⟨h, 0, none⟩ = some (.string (bs L)) ∧ w'.cell? ⟨h, 1, none⟩ = some (.int .i64 P) ∧ w'.cell? ⟨h, 2, none⟩ = some (.bool neg) ∧ w'.cell? ⟨h, 3, none⟩ = some (.bool false)) ∧ w'.cell? ⟨r, 0, none⟩ = some (.slice An (Num.len (numV l p)) cn) ∧ w'.cell? ⟨r, 1, none⟩ = some (.slice Ad (Num.len (denV l p)) cd)) := fun w' hb => by
      have k4 := HK5.out.later hb HK5.out.lt
      have k3 := HK6.out.later hb HK6.out.lt
      exact ⟨⟨by rw [k4.cell 0]; rfl, by rw [k4.cell 1]; rfl, by rw [k4.cell 2]; rfl, by rw [k4.cell 3]; rfl⟩, by rw [k3.cell 0]; rfl, by rw [k3.cell 1]; rfl⟩
    obtain ⟨⟨c0, c1, c2, c3⟩, d0, d1⟩ := S.out W5 (Below.refl _ _)
    have hE : (cmpN (numV L P * (denV l p * 2 ^ (-K).toNat)) (numV l p * 2 ^ K.toNat * denV L P) == 0) = true := by rw [cmpN_eq E.out]; rfl
    have L1 := Lib.hid (numV_len (P := P) HTL.out.digs (by omega) (by omega) (by omega))
    have L2 := Lib.hid (denV_len (L := L) (P := P) (by omega) (by omega))
    have l3 := numV_len (P := p) HDg.out (by omega) (by omega) (by omega)
    have l4 := denV_len (L := l) (P := p) (by omega) (by omega)
    have L3 : Hid (Num.len (numV l p * 2 ^ K.toNat) ≤ 4000) := by show _ ≤ _; have := Num.len_shl (numV l p) K.toNat; omega
    have L4 : Hid (Num.len (denV l p * 2 ^ (-K).toNat) ≤ 4000) := by show _ ≤ _; have := Num.len_shl (denV l p) (-K).toNat; omega
    have l5 : Num.len (numV l p) ≤ 10000 := by omega
    have l6 : Num.len (denV l p) ≤ 10000 := by omega
    have hL8 : L.length ≤ 800 := by omega
    have hL16 : L.length ≤ 1600 := by omega
    have hPa : -3000 ≤ P := by omega
    have hPb : P ≤ 3000 := by omega
    have kk0 : -1000 ≤ K := by omega
    have kk1 : K ≤ 1000 := by omega
    have M1 : Num.len (numV L P) + Num.len (denV l p * 2 ^ (-K).toNat) ≤ 1000000 := by have h1 := L1.out; have h2 := L4.out; omega
    have M2 : Num.len (numV l p * 2 ^ K.toNat) + Num.len (denV L P) ≤ 1000000 := by have h1 := L2.out; have h2 := L3.out; omega
    have hwK : IntKind.i64.wrap K = K := IntWalk.i64_in _ (by omega)
    clear l3 l4
    go_region_held3 (fun w' => (w'.cell? ⟨h, 0, none⟩ = some (.string (bs L)) ∧ w'.cell? ⟨h, 1, none⟩ = some (.int .i64 P) ∧ w'.cell? ⟨h, 2, none⟩ = some (.bool neg) ∧ w'.cell? ⟨h, 3, none⟩ = some (.bool false)) ∧ w'.cell? ⟨r, 0, none⟩ = some (.slice An (Num.len (numV l p)) cn) ∧ w'.cell? ⟨r, 1, none⟩ = some (.slice Ad (Num.len (denV l p)) cd))
      (first | exact S.out _ hb7 | exact S.out _ hb6 | exact S.out _ hb5 | exact S.out _ hb4 | exact ⟨⟨c0, c1, c2, c3⟩, d0, d1⟩)
      (first
        | (go_at_call 13; refine (tidy_any L P neg false _ HTL.out hL8).mono ?_; rintro e' w4 ⟨rfl, hb4'⟩; have hb4 := undrew hb4')
        | (go_at_call 12; refine (value_any L P neg false _ HTL.out.digs hL16 hPa hPb).mono ?_; rintro e' w5 ⟨vn5, vd5, rfl, hn5, hd5, hb5'⟩; have hb5 := hb4.trans (hb5'.mono hb4.size))
        | (go_at_call 15; refine (shifted_all _ (numV l p) (denV l p) K _ ⟨_, _, rfl, HN.out.later hb5, HD.out.later hb5⟩ kk0 kk1 l5 l6).mono ?_; rintro e' w6 ⟨vn6, vd6, rfl, hn6, hd6, hb6'⟩; have hb6 := hb5.trans (hb6'.mono hb5.size))
        | (go_at_call 14; refine (cmp_any _ _ (numV L P) (denV L P) (numV l p * 2 ^ K.toNat) (denV l p * 2 ^ (-K).toNat) _ ⟨_, _, rfl, hn5.later hb6', hd5.later hb6'⟩ ⟨_, _, rfl, hn6, hd6⟩ M1 M2).mono ?_; rintro e' w7 ⟨rfl, hb7'⟩; have hb7 := hb6.trans (hb7'.mono hb6.size)))
    all_goals
      have R := Lib.hid (HB5.out.trans (hb7.mono HB5.out.size))
      clear hb4 hb4' hn5 hd5 hb5 hb5' hn6 hd6 hb6 hb6' hb7 hb7' c0 c1 c2 c3 d0 d1
      go_wp2_with fail
      go_ret
      exact ⟨rfl, R.out⟩
end Go.Proofs.YtfndpecffhempaaDoor
