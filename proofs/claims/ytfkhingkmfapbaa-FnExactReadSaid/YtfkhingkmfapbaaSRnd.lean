/- Rounded of the reference, by a contract: a decimal number rounded to k digits, as a ratio. -/
import Derived.Test.YtfkhingkmfapbaaSDec
namespace Go.Proofs.Ytfkhingkmfapbaa
open Go.RowKit

/-- h times 10 to the power of q: the ratio -/
def numT (h : Nat) (q : Int) : Nat := h * 10 ^ q.toNat
def denT (q : Int) : Nat := 10 ^ (-q).toNat
theorem times_ten (v : Value) (h : Nat) (q : Int) (w : World) (hm : IsNat w v h) (hl : Num.len h ≤ 1000) (p0 : -5000 ≤ q) (p1 : q ≤ 5000) :
    Calls Try.prog 23 #[v, .int .i64 0, .int .i64 q] w (GivesRatio (numT h q) (denT q) w) := by
  have h := times_any v h 0 q w hm hl (by omega) (by omega) p0 p1
  simpa [numT, denT] using h

/-- is the head raised by one? -/
def incR (l : List Nat) (k : Nat) (way : Int) : Bool :=
  decide (0 < way) || (way == 0 && (decide (10 ^ (l.length - k) < valD (l.drop k) * 2) || (decide (valD (l.drop k) * 2 = 10 ^ (l.length - k)) && (decide (0 < k) && decide (nth l (k - 1) % 2 = 1)))))
theorem incR_down (l : List Nat) (k : Nat) : incR l k (-1) = false := rfl
theorem incR_up (l : List Nat) (k : Nat) : incR l k 1 = true := rfl
theorem incR_zero (l : List Nat) (k : Nat) : incR l k 0 = (decide (10 ^ (l.length - k) < valD (l.drop k) * 2) || (decide (valD (l.drop k) * 2 = 10 ^ (l.length - k)) && (decide (0 < k) && decide (nth l (k - 1) % 2 = 1)))) := rfl
theorem odd_bit {c : Nat} (h : c < 256) : (bits BinOp.and IntKind.u8 (c : Int) 1 == 1) = decide (c % 2 = 1) := by
  rw [show (1 : Int) = ((1 : Nat) : Int) from rfl, u8_and_nat c 1 h (by decide), Nat.and_one_is_mod]
  by_cases e : c % 2 = 1
  · rw [e]; rfl
  · have : c % 2 = 0 := by omega
    rw [this]; rfl
/-- the head -/
def hdR (l : List Nat) (k : Nat) (way : Int) : Nat := valD (l.take k) + if incR l k way then 1 else 0

set_option maxHeartbeats 1000000 in
set_option maxRecDepth 100000 in
theorem rounded_same (l : List Nat) (k : Nat) (p way : Int) (neg tr : Bool) (w : World) (hd : Digs l) (hl : l.length ≤ 1600) (p0 : -3000 ≤ p) (p1 : p ≤ 3000) (hk : l.length ≤ k) (_hk2 : k ≤ 100000) :
    Calls Try.prog 15 #[.agg #[.string (bs l), .int .i64 p, .bool neg, .bool tr], .int .i64 k, .int .i64 way] w (GivesRatio (numV l p) (denV l p) w) := by
  have hsz := bs_size l
  have HD := Lib.hid hd
  clear hd
  have hW : Below w.heap.size w ((w.alloc (.cells #[.string (bs l), .int .i64 p, .bool neg, .bool tr] 25)).alloc (.cells #[.slice none 0 0, .slice none 0 0] 31)) :=
    ((Below.refl _ _).alloc (Nat.le_refl _) _).alloc (by simp) _
  have B0 : Box ((w.alloc (.cells #[.string (bs l), .int .i64 p, .bool neg, .bool tr] 25)).alloc (.cells #[.slice none 0 0, .slice none 0 0] 31)) 25 w.heap.size #[.string (bs l), .int .i64 p, .bool neg, .bool tr] := (Box.new w _ _).alloc _
  have B1 : Box ((w.alloc (.cells #[.string (bs l), .int .i64 p, .bool neg, .bool tr] 25)).alloc (.cells #[.slice none 0 0, .slice none 0 0] 31)) 31 (w.heap.size + 1) #[.slice none 0 0, .slice none 0 0] := by
    have := Box.new (w.alloc (.cells #[.string (bs l), .int .i64 p, .bool neg, .bool tr] 25)) 31 #[.slice none 0 0, .slice none 0 0]
    simpa using this
  have HW := Lib.hid hW
  have HB1 := Lib.hid B1
  clear hW B0 B1
  go_enter Try.func15, Try.ntmps15
  go_wp2_with fail
  generalize (w.alloc (.cells #[.string (bs l), .int .i64 p, .bool neg, .bool tr] 25)).alloc (.cells #[.slice none 0 0, .slice none 0 0] 31) = W at *
  refine (value_any l p neg tr _ HD.out hl p0 p1).mono ?_
  rintro e' w5 ⟨vn, vd, rfl, hn, hdn, hb5⟩
  obtain ⟨An, cn, rfl, _, _⟩ := natLen_shape hn
  obtain ⟨Ad, cd, rfl, _, _⟩ := natLen_shape hdn
  have K0 := HB1.out.later hb5 HB1.out.lt
  have a0 : w5.cell? ⟨w.heap.size + 1, 0, none⟩ = some (.slice none 0 0) := by rw [K0.cell 0]; rfl
  have a1 : w5.cell? ⟨w.heap.size + 1, 1, none⟩ = some (.slice none 0 0) := by rw [K0.cell 1]; rfl
  have f0 : w5.frozen? ⟨w.heap.size + 1, 0, none⟩ = false := K0.frozen 0
  have f1 : w5.frozen? ⟨w.heap.size + 1, 1, none⟩ = false := K0.frozen 1
  have HK := Lib.hid K0
  have HN := Lib.hid hn
  have HDn := Lib.hid hdn
  have HB6 := Lib.hid (HW.out.trans (hb5.mono HW.out.size))
  have q0 := (HK.out.set 0 (.slice An (Num.len (numV l p)) cn)).cell 0
  have q1 := ((HK.out.set 0 (.slice An (Num.len (numV l p)) cn)).set 1 (.slice Ad (Num.len (denV l p)) cd)).cell 1
  clear hn hdn K0 hb5
  go_wp2_with fail
  refine bodyPost_ret (v := .agg #[.slice An (Num.len (numV l p)) cn, .slice Ad (Num.len (denV l p)) cd]) (by simp [results, Try.results15, go_sem, q0, q1]) rfl ⟨_, _, rfl, ?_, ?_, ?_⟩
  · exact (HN.out.far HK.out (by decide) 0 _).far (HK.out.set 0 _) (by decide) 1 _
  · exact (HDn.out.far HK.out (by decide) 0 _).far (HK.out.set 0 _) (by decide) 1 _
  · exact (HB6.out.setCell (by show _ ≤ _; simp) _).setCell (by show _ ≤ _; simp) _

set_option maxHeartbeats 4000000 in
set_option maxRecDepth 100000 in
theorem rounded_cut (l : List Nat) (k : Nat) (p way : Int) (neg tr : Bool) (w : World) (hd : Digs l) (hl : l.length ≤ 1600) (p0 : -3000 ≤ p) (p1 : p ≤ 3000) (hk : k < l.length) (hway : way = -1 ∨ way = 0 ∨ way = 1) :
    Calls Try.prog 15 #[.agg #[.string (bs l), .int .i64 p, .bool neg, .bool tr], .int .i64 k, .int .i64 way] w (GivesRatio (numT (hdR l k way) (p - k)) (denT (p - k)) w) := by
  have hsz := bs_size l
  have hget := get_bs l (bytes_digs hd)
  have HD := Lib.hid hd
  have HH := Lib.hid (valD_len (digs_take hd k) (by simp; omega))
  have HR := Lib.hid (valD_len (digs_drop hd k) (by simp; omega))
  have HP := Lib.hid (Num.len_pow10 (l.length - k))
  clear hd
  have hW : Below w.heap.size w ((w.alloc (.cells #[.string (bs l), .int .i64 p, .bool neg, .bool tr] 25)).alloc (.cells #[.slice none 0 0, .slice none 0 0] 31)) :=
    ((Below.refl _ _).alloc (Nat.le_refl _) _).alloc (by simp) _
  have B0 : Box ((w.alloc (.cells #[.string (bs l), .int .i64 p, .bool neg, .bool tr] 25)).alloc (.cells #[.slice none 0 0, .slice none 0 0] 31)) 25 w.heap.size #[.string (bs l), .int .i64 p, .bool neg, .bool tr] := (Box.new w _ _).alloc _
  have B1 : Box ((w.alloc (.cells #[.string (bs l), .int .i64 p, .bool neg, .bool tr] 25)).alloc (.cells #[.slice none 0 0, .slice none 0 0] 31)) 31 (w.heap.size + 1) #[.slice none 0 0, .slice none 0 0] := by
    have := Box.new (w.alloc (.cells #[.string (bs l), .int .i64 p, .bool neg, .bool tr] 25)) 31 #[.slice none 0 0, .slice none 0 0]
    simpa using this
  have HW := Lib.hid hW
  have HB0 := Lib.hid B0
  have HB1 := Lib.hid B1
  clear hW B0 B1
  have ht : (bs l).extract 0 k = bs (l.take k) := bs_take l k
  have hdr : (bs l).extract k l.length = bs (l.drop k) := bs_drop' l k
  have hk0 : (0 : Int) ≤ (k : Int) := by omega
  have hk1 : (k : Int) ≤ (l.length : Int) := by omega
  go_enter Try.func15, Try.ntmps15
  go_upto_region 3 with fail
  generalize (w.alloc (.cells #[.string (bs l), .int .i64 p, .bool neg, .bool tr] 25)).alloc (.cells #[.slice none 0 0, .slice none 0 0] 31) = W at *
  have c0 : W.cell? ⟨w.heap.size, 0, none⟩ = some (.string (bs l)) := by rw [HB0.out.cell 0]; rfl
  have HWW := Lib.hid HW.out
  go_cut [7, 8] (fun s t wx => Hid (IsNat wx s (valD (l.take k)) ∧ IsNat wx t (valD (l.drop k)) ∧ Below W.heap.size W wx))
  case first =>
    go_region_held3 (fun w' => w'.cell? ⟨w.heap.size, 0, none⟩ = some (.string (bs l)))
      (first | exact c0 | exact d0 | exact e0)
      (first
        | (go_at_call_of 24 (Value.string (bs (l.take k))); refine (digits_any (l.take k) _ (digs_take HD.out k) (by simp; omega)).mono ?_; rintro e' w4 ⟨v4, rfl, hv4, hb4'⟩; have hb4 := undrew hb4'; have d0 := (hb4.cell (p := ⟨w.heap.size, 0, none⟩) HB0.out.lt).trans c0)
        | (go_at_call_of 24 (Value.string (bs (l.drop k))); refine (digits_any (l.drop k) _ (digs_drop HD.out k) (by simp; omega)).mono ?_; rintro e' w5 ⟨v5, rfl, hv5, hb5⟩; have hb6 := hb4.trans (hb5.mono hb4.size); have e0 := (hb6.cell (p := ⟨w.heap.size, 0, none⟩) HB0.out.lt).trans c0))
    all_goals
      have R1 := Lib.hid (hv4.later hb5)
      have R2 := Lib.hid hv5
      have R3 := Lib.hid hb6
      clear hv4 hv5 hb4 hb5 hb6 d0 e0
      go_wp2_with fail
      go_meet
      exact ⟨R1.out, R2.out, R3.out⟩
  case rest =>
    obtain ⟨r1, r2, r3⟩ := hcut.out
    clear hcut
    obtain ⟨W2, hW2⟩ : ∃ W2 : World, W2 = wc := ⟨_, rfl⟩
    subst hW2
    obtain ⟨Ah, ch, rfl, _, _⟩ := natLen_shape r1
    obtain ⟨Ar, cr, rfl, _, _⟩ := natLen_shape r2
    have R1 := Lib.hid r1
    have R2 := Lib.hid r2
    have R3 := Lib.hid r3
    have g0 : W2.cell? ⟨w.heap.size, 0, none⟩ = some (.string (bs l)) := (r3.cell (p := ⟨w.heap.size, 0, none⟩) HB0.out.lt).trans c0
    clear r1 r2 r3 c0
    obtain ⟨m, hm⟩ : ∃ m : Nat, m = l.length - k := ⟨_, rfl⟩
    have hwm : IntKind.i64.wrap ((l.length : Int) - (k : Int)) = (m : Int) := by rw [IntWalk.i64_in _ (by omega)]; omega
    have hm9 : (m : Int) ≤ 100000 := by omega
    have HM := Lib.hid hm
    clear hm
    go_upto_region 4 with fail
    go_cut [9] (fun s wx => s = .int .i64 (cmpN (valD (l.drop k) * 2) (10 ^ m)) ∧ Hid (Below W2.heap.size W2 wx))
    case first =>
      go_region_held3 (fun w' => w'.cell? ⟨w.heap.size, 0, none⟩ = some (.string (bs l)))
        (first | exact g0 | exact d0 | exact e0)
        (first
          | (go_at_call 39; refine (natShl_any _ (valD (l.drop k)) 1 _ (R2.out.drew) (by have := HR.out; omega) (by omega) (by omega)).mono ?_; rintro e' w4 ⟨v4, rfl, hv4, hb4'⟩; have hb4 := undrew hb4'; have d0 := (hb4.cell (p := ⟨w.heap.size, 0, none⟩) (Nat.lt_of_lt_of_le HB0.out.lt R3.out.size)).trans g0)
          | (go_at_call 40; refine (pow10_any _ _ hm9).mono ?_; rintro e' w5 ⟨v5, rfl, hv5, hb5⟩; have hb6 := hb4.trans (hb5.mono hb4.size); have e0 := (hb6.cell (p := ⟨w.heap.size, 0, none⟩) (Nat.lt_of_lt_of_le HB0.out.lt R3.out.size)).trans g0)
          | (go_at_call 29; refine (natCmp_any _ _ (valD (l.drop k) * 2) (10 ^ m) _ (hv4.later hb5) (by exact hv5)).mono ?_; rintro e' w6 ⟨rfl, rfl⟩))
      all_goals
        have R := Lib.hid hb6
        clear hv4 hv5 hb4 hb5 hb6 d0 e0
        go_wp2_with fail
        go_meet
        exact ⟨rfl, R.out⟩
    case rest =>
      obtain ⟨rfl, hb9⟩ := hcut
      obtain ⟨W3, hW3⟩ : ∃ W3 : World, W3 = wc := ⟨_, rfl⟩
      subst hW3
      have i0 : W3.cell? ⟨w.heap.size, 0, none⟩ = some (.string (bs l)) := (hb9.out.cell (p := ⟨w.heap.size, 0, none⟩) (Nat.lt_of_lt_of_le HB0.out.lt R3.out.size)).trans g0
      clear g0
      go_upto_region 5 with fail
      go_cut [10] (fun s wx => s = .bool (decide (0 < k) && decide (nth l (k - 1) % 2 = 1)) ∧ wx = W3)
      case first =>
        by_cases hk2 : k = 0
        · subst hk2
          go_wp2_with fail
          go_meet
          exact ⟨rfl, rfl⟩
        · have hk3 : 0 < k := by omega
          have hk4 : (1 : Int) ≤ (k : Int) := by omega
          have hk5 : k - 1 < l.length := by omega
          go_wp2_with fail
          go_meet
          refine ⟨?_, rfl⟩
          rw [odd_bit (nth_byte (bytes_digs HD.out) _), decide_eq_true hk3, Bool.true_and]
      case rest =>
        obtain ⟨rfl, rfl⟩ := hcut
        have hod : (decide (0 < k) && decide (nth l (k - 1) % 2 = 1)) = (decide (0 < k) && decide (nth l (k - 1) % 2 = 1)) := rfl
        have HI0 := Lib.hid (incR_zero l k)
        clear hod
        generalize (decide (0 < k) && decide (nth l (k - 1) % 2 = 1)) = od at *
        rw [← HM.out] at HI0
        go_upto_region 6 with fail
        obtain ⟨W4, hW4⟩ : ∃ W4 : World, W4 = wc := ⟨_, rfl⟩
        subst hW4
        go_cut [64] (fun s wx => s = .bool (incR l k way) ∧ wx = W4)
        case first =>
          rcases hway with rfl | rfl | rfl
          · go_wp2_with fail
            go_meet
            exact ⟨rfl, rfl⟩
          · have hI := HI0.out
            clear HI0
            rcases Nat.lt_trichotomy (valD (l.drop k) * 2) (10 ^ m) with h | h | h
            · have t1 : decide ((0 : Int) < cmpN (valD (l.drop k) * 2) (10 ^ m)) = false := by rw [cmpN_lt h]; rfl
              have t2 : (cmpN (valD (l.drop k) * 2) (10 ^ m) == 0) = false := by rw [cmpN_lt h]; rfl
              have E : Hid (incR l k 0 = false) := by show _ = _; rw [hI, decide_eq_false (by omega), decide_eq_false (by omega)]; rfl
              clear hI h
              go_wp2_with fail
              go_meet
              exact ⟨by rw [E.out], rfl⟩
            · have t1 : decide ((0 : Int) < cmpN (valD (l.drop k) * 2) (10 ^ m)) = false := by rw [cmpN_eq h]; rfl
              have t2 : (cmpN (valD (l.drop k) * 2) (10 ^ m) == 0) = true := by rw [cmpN_eq h]; rfl
              have E : Hid (incR l k 0 = od) := by show _ = _; rw [hI, decide_eq_false (by omega), decide_eq_true h]; rfl
              clear hI h
              go_wp2_with fail
              go_meet
              exact ⟨by rw [E.out], rfl⟩
            · have t1 : (0 : Int) < cmpN (valD (l.drop k) * 2) (10 ^ m) := by rw [cmpN_gt h]; decide
              have E : Hid (incR l k 0 = true) := by show _ = _; rw [hI, decide_eq_true h]; rfl
              clear hI h
              go_wp2_with fail
              go_meet
              exact ⟨by rw [E.out], rfl⟩
          · go_wp2_with fail
            go_meet
            exact ⟨rfl, rfl⟩
        case rest =>
          obtain ⟨rfl, rfl⟩ := hcut
          obtain ⟨W5, hW5⟩ : ∃ W5 : World, W5 = wc := ⟨_, rfl⟩
          subst hW5
          go_upto_if 64 with fail
          have HDR : Hid (hdR l k way = valD (l.take k) + if incR l k way then 1 else 0) := rfl
          have RH : Hid (IsNat W5 (.slice Ah (Num.len (valD (l.take k))) ch) (valD (l.take k))) := R1.out.later hb9.out
          have RL : Hid (Num.len (hdR l k way) ≤ 300) := by
            show _ ≤ _
            have h1 := HH.out
            have h2 : hdR l k way ≤ valD (l.take k) + 1 := by rw [HDR.out]; split <;> omega
            have h3 : valD (l.take k) + 1 < 4294967296 ^ 211 := by
              have := Num.lt_pow_len (valD (l.take k))
              have h4 : 4294967296 ^ Num.len (valD (l.take k)) ≤ 4294967296 ^ 210 := Nat.pow_le_pow_right (by omega) h1
              have h5 : (4294967296 : Nat) ^ 210 + 1 < 4294967296 ^ 211 := by rw [Nat.pow_succ]; have : 0 < (4294967296 : Nat) ^ 210 := Nat.pow_pos (by omega); generalize (4294967296 : Nat) ^ 210 = Q at *; omega
              generalize (4294967296 : Nat) ^ 210 = Q at *
              omega
            have := Num.len_le (Nat.lt_of_le_of_lt h2 h3)
            omega
          go_cut [7] (fun s wx => Hid (IsNat wx s (hdR l k way)) ∧ Hid (Below W5.heap.size W5 wx))
          case first =>
            generalize incR l k way = b at *
            cases b
            · go_wp2_with fail
              go_meet
              exact ⟨by show IsNat _ _ _; rw [HDR.out]; exact RH.out, Below.refl _ _⟩
            · go_wp2_with fail
              refine (one_any _).mono ?_
              rintro e' w6 ⟨v6, rfl, hv6, hb6⟩
              have H6 := Lib.hid hv6
              have HB6 := Lib.hid hb6
              clear hv6 hb6
              go_wp2_with fail
              refine (natAdd_any _ _ _ 1 _ (RH.out.later HB6.out) H6.out (by have := HH.out; omega) (by have h1 : Num.len 1 = 1 := Num.len_small (by decide) (by decide); omega)).mono ?_
              rintro e' w7 ⟨v7, rfl, hv7, hb7⟩
              have H7 := Lib.hid hv7
              have HB7 := Lib.hid (HB6.out.trans (hb7.mono HB6.out.size))
              clear hv7 hb7
              go_wp2_with fail
              go_meet
              exact ⟨by show IsNat _ _ _; rw [HDR.out]; exact H7.out, HB7.out⟩
          case rest =>
            obtain ⟨hv, hb⟩ := hcut
            have HBA : Hid (Below W.heap.size W wc) := (R3.out.trans (hb9.out.mono R3.out.size)).trans (hb.out.mono (R3.out.trans (hb9.out.mono R3.out.size)).size)
            obtain ⟨Ax, cx, rfl, _, _⟩ := natLen_shape hv.out
            have j1 : wc.cell? ⟨w.heap.size, 1, none⟩ = some (.int .i64 p) := (HBA.out.cell (p := ⟨w.heap.size, 1, none⟩) HB0.out.lt).trans (by rw [HB0.out.cell 1]; rfl)
            clear i0
            go_wp2_with fail
            refine (times_ten _ _ _ _ hv.out (by have := RL.out; omega) (by omega) (by omega)).mono ?_
            rintro e' w8 ⟨vn, vd, rfl, hn, hdn, hb8⟩
            obtain ⟨An, cn, rfl, _, _⟩ := natLen_shape hn
            obtain ⟨Ad, cd, rfl, _, _⟩ := natLen_shape hdn
            have HBZ : Hid (Below W.heap.size W w8) := HBA.out.trans (hb8.mono HBA.out.size)
            have K0 := HB1.out.later HBZ.out HB1.out.lt
            have a0 : w8.cell? ⟨w.heap.size + 1, 0, none⟩ = some (.slice none 0 0) := by rw [K0.cell 0]; rfl
            have a1 : w8.cell? ⟨w.heap.size + 1, 1, none⟩ = some (.slice none 0 0) := by rw [K0.cell 1]; rfl
            have f0 : w8.frozen? ⟨w.heap.size + 1, 0, none⟩ = false := K0.frozen 0
            have f1 : w8.frozen? ⟨w.heap.size + 1, 1, none⟩ = false := K0.frozen 1
            have HK := Lib.hid K0
            have HN := Lib.hid hn
            have HDn := Lib.hid hdn
            have HB6 := Lib.hid (HW.out.trans (HBZ.out.mono HW.out.size))
            have q0 := (HK.out.set 0 (.slice An (Num.len (numT (hdR l k way) (p - k))) cn)).cell 0
            have q1 := ((HK.out.set 0 (.slice An (Num.len (numT (hdR l k way) (p - k))) cn)).set 1 (.slice Ad (Num.len (denT (p - k))) cd)).cell 1
            clear hn hdn K0 hb8 j1
            go_wp2_with fail
            refine bodyPost_ret (v := .agg #[.slice An (Num.len (numT (hdR l k way) (p - k))) cn, .slice Ad (Num.len (denT (p - k))) cd]) (by simp [results, Try.results15, go_sem, q0, q1]) rfl ⟨_, _, rfl, ?_, ?_, ?_⟩
            · exact (HN.out.far HK.out (by decide) 0 _).far (HK.out.set 0 _) (by decide) 1 _
            · exact (HDn.out.far HK.out (by decide) 0 _).far (HK.out.set 0 _) (by decide) 1 _
            · exact (HB6.out.setCell (by show _ ≤ _; simp) _).setCell (by show _ ≤ _; simp) _
end Go.Proofs.Ytfkhingkmfapbaa
