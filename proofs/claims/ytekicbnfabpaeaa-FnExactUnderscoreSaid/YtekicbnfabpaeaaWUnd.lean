/- The walk of FnExactUnderscore: the law returns true. -/
import Derived.Test.YtekicbnfabpaeaaUnd
import Derived.Test.YtekicbnfabpaeaaApp
namespace Go.Proofs.Ytekicbnfabpaeaa
open Go.RowKit

def uchar (x : Nat) : Nat := if x % 11 = 10 then 95 else 48 + x % 11
theorem uchar_range (x : Nat) : (48 ≤ uchar x ∧ uchar x ≤ 57) ∨ uchar x = 95 := by unfold uchar; split <;> omega
theorem uchar_lit (x : Nat) (y : Int) (hy : y = ((x % 11 : Nat) : Int)) (W : World) : (Instr.index 9 (.string ⟨#[48, 49, 50, 51, 52, 53, 54, 55, 56, 57, 95]⟩) (.int .u8 y)).run Try.prog W = .ok (.int .u8 (uchar x : Int)) W := by
  subst hy
  have h : x % 11 < 11 := Nat.mod_lt _ (by decide)
  unfold uchar
  have : x % 11 = 0 ∨ x % 11 = 1 ∨ x % 11 = 2 ∨ x % 11 = 3 ∨ x % 11 = 4 ∨ x % 11 = 5 ∨ x % 11 = 6 ∨ x % 11 = 7 ∨ x % 11 = 8 ∨ x % 11 = 9 ∨ x % 11 = 10 := by omega
  rcases this with e | e | e | e | e | e | e | e | e | e | e <;> rw [e, run_index_string W 9 _ _ _ Try.underlying9] <;> rfl
def utext (l : List Nat) : List Nat := l.map uchar
theorem utext_len (l : List Nat) : (utext l).length = l.length := by simp [utext]
theorem utext_uch (l : List Nat) : Uch (utext l) := by
  intro x hx
  simp only [utext, List.mem_map] at hx
  obtain ⟨y, _, rfl⟩ := hx
  exact uchar_range y
theorem utext_snoc {l : List Nat} {k : Nat} (h : k < l.length) : utext (l.take (k + 1)) = utext (l.take k) ++ [uchar (nth l k)] := by
  rw [take_snoc' l h]; simp [utext]
theorem nth_last (l : List Nat) (c : Nat) : nth (l ++ [c]) l.length = c := by simp [nth]
/-- the last of a text that is not empty -/
theorem urun_last {l : List Nat} (h : 0 < l.length) : (urun l).1 = if nth l (l.length - 1) = 95 then 95 else 48 := by
  have e := snoc_of h
  conv => lhs; rw [e]
  rw [urun_snoc]

theorem ustep_plain {t : List Nat} {c : Nat} (h : c ≠ 95) : (urun (t ++ [c])).2 = (urun t).2 := by rw [urun_snoc]; simp [h]
theorem ustep_first {t : List Nat} {c : Nat} (h : c = 95) (h0 : t.length = 0) : (urun (t ++ [c])).2 = false := by
  obtain rfl := List.eq_nil_of_length_eq_zero h0
  subst h; rfl
theorem ustep_bad {t : List Nat} {c : Nat} (h : c = 95) (h0 : 0 < t.length) (hl : nth t (t.length - 1) = 95) : (urun (t ++ [c])).2 = false := by
  rw [urun_snoc, urun_last h0, hl]; simp [h]
theorem ustep_good {t : List Nat} {c : Nat} (h0 : 0 < t.length) (hl : nth t (t.length - 1) ≠ 95) : (urun (t ++ [c])).2 = (urun t).2 := by
  rw [urun_snoc, urun_last h0]; simp [hl]
theorem uend_bad {t : List Nat} (h0 : 0 < t.length) (hl : nth t (t.length - 1) = 95) : ufin t = false := by
  unfold ufin; rw [urun_last h0, hl]; simp
theorem uend_good {t : List Nat} (h0 : 0 < t.length) (hl : nth t (t.length - 1) ≠ 95) : ufin t = (urun t).2 := by
  unfold ufin; rw [urun_last h0]; simp [hl]
theorem uend_nil {t : List Nat} (h0 : t.length = 0) : ufin t = (urun t).2 := by
  obtain rfl := List.eq_nil_of_length_eq_zero h0
  rfl

theorem und_out (l : List Nat) (w : World) (hU : Uch l) (hl : l.length ≤ 100000) : Calls Try.prog 26 #[.string (bs l)] w fun e w' => e = .returned (.bool (ufin l)) ∧ w = w' := by
  have HU := Lib.hid hU
  clear hU
  go_enter Try.func26, Try.ntmps26
  go_wp2_with (go_at_call 46; go_in)
  refine (und_any l _ HU.out hl).mono ?_
  rintro e w' ⟨rfl, rfl⟩
  go_wp2_with fail
  go_ret
  exact ⟨rfl, rfl⟩

set_option maxHeartbeats 2000000 in
set_option maxRecDepth 100000 in
theorem walk_FnExactUnderscore (s : ByteArray) (w0 : s.size ≤ maxLen) (w : World) :
    Calls Try.prog 10 #[.string s] w fun e w' => e = .returned (.bool true) ∧ Below w.heap.size w w' := by
  obtain ⟨l, rfl, hB, hsz'⟩ := bs_of s
  have hsz := bs_size l
  have hget := get_bs l hB
  clear w0 hsz'
  by_cases hbig : 2147483647 < l.length
  · have hbig' : (2147483647 : Int) < (l.length : Int) := by omega
    go_enter Try.func10, Try.ntmps10
    go_wp2_with fail
    go_ret
    exact ⟨rfl, Below.refl _ _⟩
  · go_enter Try.func10, Try.ntmps10
    go_wp2_with fail
    have HU : ∀ k, Hid (Uch (utext (l.take k))) := fun k => utext_uch _
    clear hB
    go_loopw [3, 4, 5] (fun v b i wr => ∃ k : Nat, k ≤ l.length ∧ k ≤ 1000 ∧ i = .int .i64 k ∧ b = .bool (urun (utext (l.take k))).2 ∧ Hid (BRow wr w.heap.size v (utext (l.take k))) ∧ Hid (Below w.heap.size w wr)) (fun _ _ i _ => 1000 - (intOf i).toNat)
    case atStart => exact ⟨0, by omega, by omega, rfl, rfl, BRow.nil _ _, Below.refl _ _⟩
    case round =>
      obtain ⟨k, hk1, hk2, rfl, rfl, hr, hb⟩ := hrel
      have htl : (utext (l.take k)).length = k := by rw [utext_len, List.length_take]; omega
      by_cases hlt : k < l.length ∧ k < 1000
      · obtain ⟨hl1, hl2⟩ := hlt
        have hix := uchar_lit (nth l k) ((nth l k : Int) % 11) (by omega)
        have hrg := uchar_range (nth l k)
        have HS := Lib.hid (utext_snoc hl1)
        generalize uchar (nth l k) = c at *
        have step : ∀ (b : Bool) (v' : Value) (w' : World), b = (urun (utext (l.take k) ++ [c])).2 → BRow w' w.heap.size v' (utext (l.take k) ++ [c]) → Below w.heap.size w w' →
            ∃ k' : Nat, k' ≤ l.length ∧ k' ≤ 1000 ∧ Value.int .i64 ((k : Int) + 1) = .int .i64 k' ∧ Value.bool b = .bool (urun (utext (l.take k'))).2 ∧ Hid (BRow w' w.heap.size v' (utext (l.take k'))) ∧ Hid (Below w.heap.size w w') := by
          intro b v' w' e1 e2 e3
          rw [← HS.out] at e1 e2
          exact ⟨k + 1, by omega, by omega, rfl, by rw [e1], e2, e3⟩
        have STEP := Lib.hid step
        clear step HS
        generalize utext (l.take k) = t at *
        by_cases hc : c = 95
        · have t1 : ((c : Int) == 95) = true := by rw [hc]; rfl
          by_cases hk0 : k = 0
          · have t2 : ((k : Int) == 0) = true := by rw [hk0]; rfl
            have E := Lib.hid (ustep_first (t := t) hc (by omega))
            clear hk0 hc hrg
            go_wp2_with (at_builtin; refine wpList_app rfl _ _ rfl w _ t rfl (hr.out.alloc _) (hb.out.alloc hb.out.size _) ⟨wr.heap.size, 0, none⟩ 1 1 [c] rfl rfl (cell_new _ c) (by omega) ?_; intro v' w' hr' hb')
            have HR := Lib.hid hr'
            have HB := Lib.hid hb'
            clear hr' hb'
            go_wp2_with fail
            go_roundw
            case rel => exact STEP.out _ _ _ E.out.symm HR.out HB.out
            case measure => simp [intOf]; omega
          · have t2 : ((k : Int) == 0) = false := by simp; omega
            obtain ⟨g, cap, rfl, hg1, hg2, hc1, hc2, hcell⟩ := hr.out.some (by omega)
            have c1 := hcell (k - 1) (by omega)
            have hk' : (1 : Int) ≤ (k : Int) := by omega
            by_cases hl : nth t (k - 1) = 95
            · have t3 : ((nth t (k - 1) : Int) == 95) = true := by rw [hl]; rfl
              have E := Lib.hid (ustep_bad (t := t) hc (by omega) (by rw [htl]; exact hl))
              clear hk0 hc hrg hl hcell
              go_wp2_with (at_builtin; refine wpList_app rfl _ _ rfl w _ t rfl (hr.out.alloc _) (hb.out.alloc hb.out.size _) ⟨wr.heap.size, 0, none⟩ 1 1 [c] rfl rfl (cell_new _ c) (by omega) ?_; intro v' w' hr' hb')
              have HR := Lib.hid hr'
              have HB := Lib.hid hb'
              clear hr' hb'
              go_wp2_with fail
              go_roundw
              case rel => exact STEP.out _ _ _ E.out.symm HR.out HB.out
              case measure => simp [intOf]; omega
            · have t3 : ((nth t (k - 1) : Int) == 95) = false := by simp; omega
              have E := Lib.hid (ustep_good (t := t) (c := c) (by omega) (by rw [htl]; exact hl))
              clear hk0 hc hrg hl hcell
              go_wp2_with (at_builtin; refine wpList_app rfl _ _ rfl w _ t rfl (hr.out.alloc _) (hb.out.alloc hb.out.size _) ⟨wr.heap.size, 0, none⟩ 1 1 [c] rfl rfl (cell_new _ c) (by omega) ?_; intro v' w' hr' hb')
              have HR := Lib.hid hr'
              have HB := Lib.hid hb'
              clear hr' hb'
              go_wp2_with fail
              go_roundw
              case rel => exact STEP.out _ _ _ E.out.symm HR.out HB.out
              case measure => simp [intOf]; omega
        · have t1 : ((c : Int) == 95) = false := by simp; omega
          have E := Lib.hid (ustep_plain (t := t) hc)
          clear hc hrg
          go_wp2_with (at_builtin; refine wpList_app rfl _ _ rfl w _ t rfl (hr.out.alloc _) (hb.out.alloc hb.out.size _) ⟨wr.heap.size, 0, none⟩ 1 1 [c] rfl rfl (cell_new _ c) (by omega) ?_; intro v' w' hr' hb')
          have HR := Lib.hid hr'
          have HB := Lib.hid hb'
          clear hr' hb'
          go_wp2_with fail
          go_roundw
          case rel => exact STEP.out _ _ _ E.out.symm HR.out HB.out
          case measure => simp [intOf]; omega
      · have hend : l.length ≤ k ∨ 1000 ≤ k := by omega
        have HUt := HU k
        clear HU hlt hget
        generalize utext (l.take k) = t at *
        have hbs : bs [49, 95, 48] = ⟨#[49, 95, 48]⟩ := rfl
        have h110 := fun W => und_out [49, 95, 48] W (by intro x hx; simp at hx; omega) (by decide)
        rw [hbs] at h110
        have H110 := Lib.hid h110
        have hcv := hr.out.text
        clear h110 hbs
        subst htl
        by_cases hk0 : t.length = 0
        · have E := Lib.hid (uend_nil (t := t) (by omega))
          have E5 : (ufin t == (urun t).2) = true := by rw [E.out]; simp
          obtain ⟨A, cap, rfl, hc1, hc2⟩ := hr.out.shape
          have htl' : (t.length : Int) = 0 := by omega
          clear hk0
          go_wp2_with (first
            | (go_at_call 26; refine (und_out t _ HUt.out (by omega)).mono ?_; rintro e w' ⟨rfl, rfl⟩)
            | (go_at_call 26; refine (H110.out _).mono ?_; rintro e w' ⟨rfl, rfl⟩))
          all_goals (go_ret; exact ⟨ret_true rfl, hb.out⟩)
        · obtain ⟨g, cap, rfl, hg1, hg2, hc1, hc2, hcell⟩ := hr.out.some (by omega)
          have c1 := hcell (t.length - 1) (by omega)
          have hk' : (1 : Int) ≤ (t.length : Int) := by omega
          by_cases hl : nth t (t.length - 1) = 95
          · have t3 : ((nth t (t.length - 1) : Int) == 95) = true := by rw [hl]; rfl
            have E := Lib.hid (uend_bad (t := t) (by omega) hl)
            have E5 : (ufin t == false) = true := by rw [E.out]; simp
            have E6 : (!ufin t) = true := by rw [E.out]; simp
            have E7 : ufin t = false := by rw [E.out]
            clear hl hcell hk0
            go_wp2_with (first
            | (go_at_call 26; refine (und_out t _ HUt.out (by omega)).mono ?_; rintro e w' ⟨rfl, rfl⟩)
            | (go_at_call 26; refine (H110.out _).mono ?_; rintro e w' ⟨rfl, rfl⟩))
            all_goals (go_ret; exact ⟨ret_true rfl, hb.out⟩)
          · have t3 : ((nth t (t.length - 1) : Int) == 95) = false := by simp; omega
            have E := Lib.hid (uend_good (t := t) (by omega) hl)
            have E5 : (ufin t == (urun t).2) = true := by rw [E.out]; simp
            clear hl hcell hk0
            go_wp2_with (first
            | (go_at_call 26; refine (und_out t _ HUt.out (by omega)).mono ?_; rintro e w' ⟨rfl, rfl⟩)
            | (go_at_call 26; refine (H110.out _).mono ?_; rintro e w' ⟨rfl, rfl⟩))
            all_goals (go_ret; exact ⟨ret_true rfl, hb.out⟩)
end Go.Proofs.Ytekicbnfabpaeaa
