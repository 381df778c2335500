/- Only of the reference, by a contract: the text of digits it returns. -/
import Derived.Test.YtfkhingkmfapbaaApp
namespace Go.Proofs.Ytfkhingkmfapbaa
open Go.RowKit

theorem cell_new' (W : World) (c : Nat) (x : Int) (hx : x = c) : ∀ j, j < [c].length → (W.alloc (.cells #[.int .u8 x] 5)).cell? ((⟨W.heap.size, 0, none⟩ : Addr).add j) = some (.int .u8 (nth [c] j : Int)) := by
  subst hx
  exact cell_new W c
def onlyL (l : List Nat) (k : Nat) : List Nat := (l.take k).map fun x => 48 + x % 10
theorem onlyL_len (l : List Nat) (k : Nat) : (onlyL l k).length = min k l.length := by simp [onlyL]
theorem onlyL_snoc {l : List Nat} {k : Nat} (h : k < l.length) : onlyL l (k + 1) = onlyL l k ++ [48 + nth l k % 10] := by
  unfold onlyL
  rw [List.take_succ_eq_append_getElem h, List.map_append]
  congr 1
  simp [nth, List.getD_eq_getElem?_getD, h]
theorem onlyL_digs (l : List Nat) (k : Nat) : Digs (onlyL l k) := by
  intro x hx
  simp only [onlyL, List.mem_map] at hx
  obtain ⟨y, _, rfl⟩ := hx
  omega
theorem onlyL_all {l : List Nat} {k : Nat} (h : l.length ≤ k) : onlyL l l.length = onlyL l k := by
  unfold onlyL; rw [List.take_of_length_le (Nat.le_refl _), List.take_of_length_le h]

set_option maxHeartbeats 400000 in
set_option maxRecDepth 100000 in
theorem only_any (l : List Nat) (most : Nat) (w : World) (hB : Bytes l) (hm : most ≤ 100000) (hl : l.length ≤ 9223372036854775807) : Calls Try.prog 20 #[.string (bs l), .int .i64 most] w (GivesText (onlyL l most) w) := by
  have hsz := bs_size l
  have hget := get_bs l hB
  clear hB
  go_enter Try.func20, Try.ntmps20
  go_wp2_with fail
  go_loopw [5, 6] (fun v i wr => ∃ k : Nat, k ≤ l.length ∧ k ≤ most ∧ i = .int .i64 k ∧ Hid (BRow wr w.heap.size v (onlyL l k)) ∧ Hid (Below w.heap.size w wr)) (fun _ i _ => most - (intOf i).toNat)
  case atStart => exact ⟨0, by omega, by omega, rfl, BRow.nil _ _, Below.refl _ _⟩
  case round =>
    obtain ⟨k, hk1, hk2, rfl, hr, hb⟩ := hrel
    by_cases hlt : k < l.length ∧ k < most
    · obtain ⟨hl1, hl2⟩ := hlt
      have HS := Lib.hid (onlyL_snoc hl1)
      have hlen : (onlyL l k).length ≤ 100000 := by rw [onlyL_len]; omega
      go_wp2_with (at_builtin; refine wpList_app rfl _ _ rfl w _ (onlyL l k) rfl (hr.out.alloc _) (hb.out.alloc hb.out.size _) ⟨wr.heap.size, 0, none⟩ 1 1 [48 + nth l k % 10] rfl rfl (cell_new' _ (48 + nth l k % 10) _ (by omega)) (by omega) ?_; intro v' w' hr' hb')
      rw [← HS.out] at hr'
      have HR := Lib.hid hr'
      have HB := Lib.hid hb'
      clear hr' hb'
      go_wp2_with fail
      go_roundw
      case rel => exact ⟨k + 1, by omega, by omega, by go_num, HR.out, HB.out⟩
      case measure => simp [intOf]; omega
    · have HE : Hid (onlyL l k = onlyL l most) := by
        rcases (show k = most ∨ k = l.length by omega) with rfl | rfl
        · rfl
        · exact onlyL_all (by omega)
      have hend : l.length ≤ k ∨ most ≤ k := by omega
      have hcv := hr.out.text
      rw [HE.out] at hcv
      clear hlt
      go_wp2_with fail
      all_goals (go_ret; exact ⟨rfl, hb.out⟩)
end Go.Proofs.Ytfkhingkmfapbaa
