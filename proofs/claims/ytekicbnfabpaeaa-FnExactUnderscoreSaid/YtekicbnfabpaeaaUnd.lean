/- underscoreOK of the package over texts of digits and underscores, by a contract; and the walk of FnExactUnderscore: the law returns true. -/
import Derived.Test.YtekicbnfabpaeaaWB10
namespace Go.Proofs.Ytekicbnfabpaeaa
open Go.RowKit

/-- what was seen last (94: nothing, 48: a digit, 95: an underscore), and whether all went well -/
def urun (l : List Nat) : Nat × Bool := l.foldl (fun p c => (if c = 95 then 95 else 48, p.2 && !(decide (c = 95) && decide (p.1 ≠ 48)))) (94, true)
theorem urun_nil : urun [] = (94, true) := rfl
theorem urun_snoc (l : List Nat) (c : Nat) : urun (l ++ [c]) = (if c = 95 then 95 else 48, (urun l).2 && !(decide (c = 95) && decide ((urun l).1 ≠ 48))) := by simp [urun]
theorem urun_bad (a b : List Nat) (h : (urun a).2 = false) : (urun (a ++ b)).2 = false := by
  induction b generalizing a with
  | nil => simpa using h
  | cons c r ih =>
    have : a ++ c :: r = (a ++ [c]) ++ r := by simp
    rw [this]
    apply ih
    rw [urun_snoc, h]; rfl
/-- whether the underscores are allowed -/
def ufin (l : List Nat) : Bool := (urun l).2 && decide ((urun l).1 ≠ 95)
theorem urun_saw (l : List Nat) : (urun l).1 = 94 ∨ (urun l).1 = 48 ∨ (urun l).1 = 95 := by
  rcases List.eq_nil_or_concat l with rfl | ⟨a, c, rfl⟩
  · exact .inl rfl
  · rw [List.concat_eq_append, urun_snoc]
    by_cases h : c = 95
    · right; right; simp [h]
    · right; left; simp [h]
def Uch (l : List Nat) : Prop := ∀ x ∈ l, (48 ≤ x ∧ x ≤ 57) ∨ x = 95
theorem uch_bytes {l : List Nat} (h : Uch l) : Bytes l := fun x hx => by have := h x hx; omega
theorem uch_nth {l : List Nat} (h : Uch l) {i : Nat} (hi : i < l.length) : (48 ≤ nth l i ∧ nth l i ≤ 57) ∨ nth l i = 95 := by
  have : nth l i = l[i] := by simp [nth, List.getD_eq_getElem?_getD, hi]
  rw [this]; exact h _ (List.getElem_mem hi)
theorem take_snoc' (l : List Nat) {k : Nat} (h : k < l.length) : l.take (k + 1) = l.take k ++ [nth l k] := by
  rw [List.take_succ_eq_append_getElem h]
  simp [nth, List.getD_eq_getElem?_getD, h]

def lowU (c : Nat) : Nat := if c = 95 then 127 else c
theorem low_any (c : Int) (n : Nat) (hc : c = n) (h : (48 ≤ n ∧ n ≤ 57) ∨ n = 95) (w : World) : Calls Try.prog 66 #[.int .u8 c] w fun e w' => e = .returned (.int .u8 (lowU n : Int)) ∧ w = w' := by
  subst hc
  have hb : bits BinOp.or IntKind.u8 (n : Int) 32 = (lowU n : Int) := by
    rw [show (32 : Int) = ((32 : Nat) : Int) from rfl, u8_or_nat n 32 (by omega) (by omega)]
    unfold lowU
    rcases h with h | h
    · rw [if_neg (by omega)]
      have : n = 48 ∨ n = 49 ∨ n = 50 ∨ n = 51 ∨ n = 52 ∨ n = 53 ∨ n = 54 ∨ n = 55 ∨ n = 56 ∨ n = 57 := by omega
      rcases this with rfl | rfl | rfl | rfl | rfl | rfl | rfl | rfl | rfl | rfl <;> rfl
    · subst h; rfl
  go_enter Try.func66, Try.ntmps66
  go_wp2_with fail
  go_ret
  exact ⟨rfl, rfl⟩

/-- from the loop on -/
theorem uloop_step {l : List Nat} {k : Nat} (hk : k < l.length) (h : (urun (l.take k)).2 = true) (hc : nth l k ≠ 95) : urun (l.take (k + 1)) = (48, true) := by
  rw [take_snoc' l hk, urun_snoc, h, if_neg hc]; simp [hc]
theorem uloop_under {l : List Nat} {k : Nat} (hk : k < l.length) (h : (urun (l.take k)).2 = true) (hc : nth l k = 95) (hs : (urun (l.take k)).1 = 48) : urun (l.take (k + 1)) = (95, true) := by
  rw [take_snoc' l hk, urun_snoc, h, if_pos hc]; simp [hs]
theorem uloop_bad {l : List Nat} {k : Nat} (hk : k < l.length) (hc : nth l k = 95) (hs : (urun (l.take k)).1 ≠ 48) : ufin l = false := by
  have h1 : (urun (l.take (k + 1))).2 = false := by
    rw [take_snoc' l hk, urun_snoc]
    simp [hc, hs]
  have h2 := urun_bad (l.take (k + 1)) (l.drop (k + 1)) h1
  rw [List.take_append_drop] at h2
  unfold ufin; rw [h2]; rfl
theorem uloop_end {l : List Nat} (h : (urun (l.take l.length)).2 = true) : ufin l = decide ((urun l).1 ≠ 95) := by
  rw [List.take_length] at h
  unfold ufin; rw [h]; rfl

set_option maxHeartbeats 2000000 in
set_option maxRecDepth 100000 in
theorem und_any (l : List Nat) (w : World) (hU : Uch l) (hl : l.length ≤ 100000) : Calls Try.prog 61 #[.string (bs l)] w fun e w' => e = .returned (.bool (ufin l)) ∧ w = w' := by
  have hsz := bs_size l
  have hget := get_bs l (uch_bytes hU)
  have HU := Lib.hid hU
  clear hU
  by_cases h0 : l.length = 0
  · obtain rfl := List.eq_nil_of_length_eq_zero h0
    go_enter Try.func61, Try.ntmps61
    go_wp2_with fail
    refine wp_loop_rounds 1 ?_
    rw [rounds_succ]
    go_wp2_with fail
    go_ret
    exact ⟨rfl, rfl⟩
  · have hp : 0 < l.length := by omega
    have u0 := uch_nth HU.out hp
    have t1 : ((nth l 0 : Int) == 45) = false := by simp; omega
    have t2 : ((nth l 0 : Int) == 43) = false := by simp; omega
    have t0 : (1 : Int) ≤ (l.length : Int) := by omega
    go_enter Try.func61, Try.ntmps61
    go_upto_region 6 with fail
    go_cut [46] (fun s wx => s = .bool false ∧ w = wx)
    case first =>
      by_cases h2 : 2 ≤ l.length
      · have h2' : (2 : Int) ≤ (l.length : Int) := by omega
        by_cases hz : nth l 0 = 48
        · have t3 : ((nth l 0 : Int) == 48) = true := by rw [hz]; rfl
          have u1 := uch_nth HU.out (i := 1) (by omega)
          have x1 : ((lowU (nth l 1) : Int) == 98) = false := by unfold lowU; split <;> simp <;> omega
          have x2 : ((lowU (nth l 1) : Int) == 111) = false := by unfold lowU; split <;> simp <;> omega
          have x3 : ((lowU (nth l 1) : Int) == 120) = false := by unfold lowU; split <;> simp <;> omega
          have HU1 := Lib.hid u1
          clear hz u0 u1
          go_wp2_with (go_at_call 66; refine (low_any _ (nth l 1) rfl HU1.out _).mono ?_; rintro e w' ⟨rfl, rfl⟩)
          go_meet
          exact ⟨rfl, rfl⟩
        · have t3 : ((nth l 0 : Int) == 48) = false := by simp; omega
          clear hz
          go_wp2_with fail
          go_meet
          exact ⟨rfl, rfl⟩
      · have h2' : decide ((2 : Int) ≤ (l.length : Int)) = false := by simp; omega
        go_wp2_with fail
        go_meet
        exact ⟨rfl, rfl⟩
    case rest =>
      obtain ⟨rfl, rfl⟩ := hcut
      clear u0 t1 t2
      go_wp2_with fail
      go_loop [3, 4] (fun s i => ∃ k z : Nat, k ≤ l.length ∧ s = .int .i32 z ∧ i = .int .i64 k ∧ Hid (urun (l.take k) = (z, true))) (fun _ i => l.length - (intOf i).toNat)
      case atStart => exact ⟨0, 94, by omega, rfl, rfl, rfl⟩
      case round =>
        obtain ⟨k, z, hk, rfl, rfl, hr⟩ := hrel
        by_cases hlt : k < l.length
        · have uk := uch_nth HU.out hlt
          by_cases hc : nth l k = 95
          · have t3 : (48 : Int) ≤ (nth l k : Int) := by omega
            have t4 : decide ((nth l k : Int) ≤ 57) = false := by simp; omega
            have t5 : ((nth l k : Int) == 95) = true := by rw [hc]; rfl
            have HC := Lib.hid hc
            clear hc uk
            by_cases hz : z = 48
            · have t6 : ((z : Int) != 48) = false := by rw [hz]; rfl
              have R := Lib.hid (uloop_under hlt (by rw [hr.out]) HC.out (by rw [hr.out]; exact hz))
              clear hz
              go_wp2_with fail
              go_round
              case rel => exact ⟨k + 1, 95, by omega, rfl, by go_num, R.out⟩
              case measure => simp [intOf]; omega
            · have t6 : ((z : Int) != 48) = true := by rw [bne_iff_ne]; omega
              have R := Lib.hid (uloop_bad hlt HC.out (by rw [hr.out]; exact hz))
              clear hz
              go_wp2_with fail
              go_ret
              exact ⟨by rw [R.out]; rfl, rfl⟩
          · have t3 : (48 : Int) ≤ (nth l k : Int) := by omega
            have t4 : (nth l k : Int) ≤ 57 := by omega
            have R := Lib.hid (uloop_step hlt (by rw [hr.out]) hc)
            clear hc uk
            go_wp2_with fail
            go_round
            case rel => exact ⟨k + 1, 48, by omega, rfl, by go_num, R.out⟩
            case measure => simp [intOf]; omega
        · obtain rfl : k = l.length := by omega
          have R := Lib.hid (uloop_end (l := l) (by rw [hr.out]))
          have hz : (urun l).1 = z := by have := hr.out; rw [List.take_length] at this; rw [this]
          rw [hz] at R
          clear hz
          go_wp2_with fail
          go_ret
          refine ⟨?_, rfl⟩
          rw [R.out]
          by_cases h95 : z = 95
          · subst h95; rfl
          · have e1 : ((z : Int) != 95) = true := by rw [bne_iff_ne]; omega
            rw [e1]; simp [h95]
end Go.Proofs.Ytekicbnfabpaeaa
