/- The text that fmtEFG of the package appends in the formats e and E: plain words. -/
import Derived.Test.YtekicbnfabpaeaaOnly
import Derived.Deep.DeepCutAuto
import Derived.Laws.IdiomStrings
namespace Go.Proofs.Ytekicbnfabpaeaa
open Go.RowKit

theorem BRow.below {w w' : World} {B : Nat} {v : Value} {l : List Nat} {B' : Nat} (h : BRow w B v l) (hb : Below B' w w') (hB : ∀ k, v.ownBlock = Option.some k → k < B') : BRow w' B v l := by
  obtain ⟨h1, h2⟩ := h
  refine ⟨h1, ?_⟩
  rcases h2 with h2 | ⟨g, cap, cur, hv, hg, hh, r⟩
  · exact .inl h2
  · exact .inr ⟨g, cap, cur, hv, hg, (hb.block g (hB g (by subst hv; rfl))).trans hh, r⟩
theorem BRow.later {w w' : World} {B : Nat} {v : Value} {l : List Nat} (h : BRow w B v l) (hb : Below w.heap.size w w') : BRow w' B v l := h.below hb (fun k hk => (World.ownsRow.lt h k hk).2)
/-- the slice sv of bytes holds D, and is not nil -/
def Reads (w : World) (sv : Value) (D : List Nat) : Prop := ∃ g cap, sv = .slice (some ⟨g, 0, none⟩) D.length cap ∧ g < w.heap.size ∧ D.length ≤ cap ∧ cap ≤ 9223372036854775807 ∧ ∀ j, j < D.length → w.cell? ⟨g, j, none⟩ = some (.int .u8 (nth D j : Int))
/-- the bytes of a text -/
theorem reads_bytes (l : List Nat) (hB : Bytes l) (hl : l.length ≤ 1000000) (w : World) : ∃ sv w', (convert 9 46 (.string (bs l))).run Try.prog w = .ok sv w' ∧ Reads w' sv l ∧ Below w.heap.size w w' := by
  have h := run_bytes_of_string (P := Try.prog) w 9 46 5 (bs l) Try.underlying9 Try.underlying46 Try.underlying5
  refine ⟨_, _, h, ⟨w.heap.size, _, by rw [bs_size], by simp, by have := grownCap_ge w (bs l).size 0 5; rw [bs_size] at this; exact this, by
    have := grownCap_le_maxLen w (bs l).size 0 5 (by rw [bs_size]; unfold maxLen; omega)
    rw [bs_size] at this; simpa [maxLen] using this, ?_⟩, ?_⟩
  · intro j hj
    have e : (bytesRow (bs l) (grownCap w (bs l).size 0 5))[j]? = some (.int .u8 (nth l j : Int)) := by
      have hz : j < (bs l).size := by rw [bs_size]; exact hj
      have := get_bs l hB j hz
      unfold bytesRow
      rw [Array.getElem?_append_left (by simpa using hz)]
      simp only [Array.getElem?_map]
      rw [Array.getElem?_eq_getElem (by exact hz)]
      simp only [Option.map_some]
      rw [← this]
      rfl
    rw [← e]
    exact cell_of_row _ w.heap.size j _ _ _ (heap_alloc_new w.drew _)
  · exact ⟨rfl, rfl, rfl, by simp, fun i hi => Below.heap_alloc w.drew _ i hi⟩
/-- what is appended so far -/
def Dst (w wx : World) (s : Value) (L : List Nat) : Prop := BRow wx w.heap.size s L ∧ Below w.heap.size w wx

theorem addr_add (g o j : Nat) : (⟨g, o, none⟩ : Addr).add j = ⟨g, o + j, none⟩ := by
  unfold Addr.add
  by_cases h : j = 0
  · subst h; rfl
  · simp [h]
theorem cell_two (W : World) (a b : Nat) (x y : Int) (hx : x = a) (hy : y = b) : ∀ j, j < [a, b].length → (W.alloc (.cells #[.int .u8 x, .int .u8 y] 5)).cell? ((⟨W.heap.size, 0, none⟩ : Addr).add j) = some (.int .u8 (nth [a, b] j : Int)) := by
  subst hx; subst hy
  intro j hj
  rw [addr_add]
  rcases (show j = 0 ∨ j = 1 by simp at hj; omega) with rfl | rfl <;> simp [go_sem, nth]
theorem cell_three (W : World) (a b c : Nat) (x y z : Int) (hx : x = a) (hy : y = b) (hz : z = c) : ∀ j, j < [a, b, c].length → (W.alloc (.cells #[.int .u8 x, .int .u8 y, .int .u8 z] 5)).cell? ((⟨W.heap.size, 0, none⟩ : Addr).add j) = some (.int .u8 (nth [a, b, c] j : Int)) := by
  subst hx; subst hy; subst hz
  intro j hj
  rw [addr_add]
  rcases (show j = 0 ∨ j = 1 ∨ j = 2 by simp at hj; omega) with rfl | rfl | rfl <;> simp [go_sem, nth]
def signL (neg : Bool) : List Nat := if neg then [45] else []
def fracL (D : List Nat) (p : Nat) : List Nat := if 0 < p then [46] ++ D.drop 1 ++ List.replicate (p + 1 - D.length) 48 else []
def expSign (e : Int) : Nat := if e < 0 then 45 else 43
def expL (e : Nat) : List Nat := if e < 10 then [48, 48 + e] else if e < 100 then [48 + e / 10, 48 + e % 10] else [48 + e / 100, 48 + e / 10 % 10, 48 + e % 10]
def sciL (neg : Bool) (D : List Nat) (p : Nat) (c : Nat) (e : Int) : List Nat := signL neg ++ [nth D 0] ++ fracL D p ++ [c] ++ [expSign e] ++ expL e.natAbs

end Go.Proofs.Ytekicbnfabpaeaa
