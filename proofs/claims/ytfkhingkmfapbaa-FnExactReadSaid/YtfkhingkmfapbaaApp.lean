/- Rows of bytes that grow by append, and Only of the reference, by a contract: the text of digits it returns. -/
import Derived.Test.YtfkhingkmfapbaaStrA
import Derived.Maps.AppendAt
import Derived.OpenShut
namespace Go.Proofs.Ytfkhingkmfapbaa
open Go.RowKit

theorem info_u8' : (Try.prog.info? 5).map (fun i => (i.zero, i.size, i.bytes)) = some (some (.int .u8 0), 1, 1) := by kernel_rfl
def bcells (l : List Nat) : List Value := l.map fun (d : Nat) => .int .u8 (d : Int)
theorem bcells_len (l : List Nat) : (bcells l).length = l.length := by simp [bcells]
theorem bcells_at {l : List Nat} {j : Nat} (h : j < l.length) : (bcells l)[j]? = some (.int .u8 (nth l j : Int)) := by
  simp [bcells, nth, List.getD_eq_getElem?_getD, h]
theorem bcells_one (l : List Nat) : ∀ u ∈ bcells l, u.oneCell' = true := by
  intro u hu
  simp only [bcells, List.mem_map] at hu
  obtain ⟨d, _, rfl⟩ := hu
  rfl
theorem bcells_append (a b : List Nat) : bcells (a ++ b) = bcells a ++ bcells b := by simp [bcells]
/-- the slice v of bytes, in memory from B on, holds l -/
def BRow (w : World) (B : Nat) (v : Value) (l : List Nat) : Prop := w.ownsRow B 5 1 v l.length (bcells l)
theorem BRow.nil (w : World) (B : Nat) : BRow w B (.slice none 0 0) [] := ⟨rfl, .inl ⟨rfl, rfl⟩⟩
theorem BRow.alloc {w : World} {B : Nat} {v : Value} {l : List Nat} (h : BRow w B v l) (o : Obj) : BRow (w.alloc o) B v l := World.ownsRow.alloc h o
theorem BRow.drewN {w : World} {B : Nat} {v : Value} {l : List Nat} (h : BRow w B v l) (n : Nat) : BRow (w.drewN n) B v l := h
theorem BRow.some {w : World} {B : Nat} {v : Value} {l : List Nat} (h : BRow w B v l) (hl : 0 < l.length) :
    ∃ g cap, v = .slice (some ⟨g, 0, none⟩) l.length cap ∧ B ≤ g ∧ g < w.heap.size ∧ l.length ≤ cap ∧ cap ≤ 9223372036854775807 ∧ ∀ j, j < l.length → w.cell? ⟨g, j, none⟩ = some (.int .u8 (nth l j : Int)) := by
  have h' := h
  rcases h.2 with ⟨rfl, hn⟩ | ⟨g, cap, cur, rfl, hB, hh, hnc, hcm, _, _⟩
  · omega
  · refine ⟨g, cap, rfl, hB, ?_, hnc, by simpa [maxLen] using hcm, fun j hj => ?_⟩
    · rcases Nat.lt_or_ge g w.heap.size with hlt | hge
      · exact hlt
      · rw [Array.getElem?_eq_none hge] at hh; cases hh
    · rw [World.ownsRow.cellAt h' j (by omega), bcells_at hj]
theorem BRow.shape {w : World} {B : Nat} {v : Value} {l : List Nat} (h : BRow w B v l) :
    ∃ (A : Option Addr) (cap : Nat), v = .slice A l.length cap ∧ l.length ≤ cap ∧ cap ≤ 9223372036854775807 := by
  rcases h.2 with ⟨rfl, hn⟩ | ⟨g, cap, cur, rfl, _, hh, hnc, hcm, _, _⟩
  · exact ⟨none, 0, by rw [hn], by omega, by omega⟩
  · exact ⟨_, cap, rfl, hnc, by simpa [maxLen] using hcm⟩
/-- the text of a row of bytes -/
theorem BRow.text {w : World} {B : Nat} {v : Value} {l : List Nat} (h : BRow w B v l) : (convert 78 9 v).run Try.prog w = .ok (.string (bs l)) w := by
  by_cases hl : 0 < l.length
  · obtain ⟨g, cap, rfl, _, _, _, _, hc⟩ := h.some hl
    have := run_convert_bytes_arg (P := Try.prog) w 78 5 Try.underlying78 Try.underlying5 g 0 l.length cap (l.map fun (x : Nat) => (x : Int)) (by rw [List.length_map])
      (by intro i hi
          rw [Nat.zero_add, hc i hi]
          congr 2
          simp [nth, List.getD_eq_getElem?_getD, hi]) 9 Try.underlying9
    rw [this, bs_nums]
  · obtain rfl : l = [] := List.eq_nil_of_length_eq_zero (by omega)
    rcases h.2 with ⟨rfl, hn⟩ | ⟨g, cap, cur, rfl, hB, hh, hnc, hcm, _, _⟩
    · have := run_convert_bytes_nil (P := Try.prog) w 78 5 Try.underlying78 Try.underlying5 0 0 9 Try.underlying9
      rw [this]; rfl
    · have := run_convert_bytes_arg (P := Try.prog) w 78 5 Try.underlying78 Try.underlying5 g 0 0 cap [] rfl
        (by intro i hi; omega) 9 Try.underlying9
      rw [show ([] : List Nat).length = 0 from rfl, this]; rfl

section
variable {w : World}
theorem wpList_app {ops : Array Oper} {rest : List Oper} {o : Oper} {a : Act} {Q : Exit → Act → World → Prop} (hgd : o.guard = none) (s x : Operand)
    (ho : o.op = .call { callee := .builtin .append, args := #[s, x], argTypes := #[78, 78] }) (w0 : World) (v : Value) (l : List Nat) (hs : a.eval s = v) (hown : BRow w w0.heap.size v l) (hB : Below w0.heap.size w0 w)
    (ad : Addr) (m c : Nat) (l2 : List Nat) (hx : a.eval x = .slice (some ad) m c) (hl : l2.length = m) (hnews : ∀ j, j < l2.length → w.cell? (ad.add j) = some (.int .u8 (nth l2 j : Int))) (hlen : l.length + m ≤ 10000000)
    (h : ∀ v' w', BRow w' w0.heap.size v' (l ++ l2) → Below w0.heap.size w0 w' → wpList Try.prog ops Q rest (a.put o.dst v') w') : wpList Try.prog ops Q (o :: rest) a w := by
  obtain ⟨i0, hi, hz0, hz1, hz2⟩ := info_parts info_u8'
  refine wpList_append_own _ hgd s x 78 ho w0.heap.size 5 i0 (.int .u8 0) 1 1 Try.underlying78 hi hz0 hz1 hz2 rfl (by decide) v l.length (bcells l) hs hown ad m c (bcells l2) hx (by rw [bcells_len, hl]; omega) ?_ (bcells_one l2) (by unfold maxLen; omega) (by omega) hB.size ?_
  · intro j u hu
    have hj : j < l2.length := by
      rcases Nat.lt_or_ge j l2.length with hlt | hge
      · exact hlt
      · rw [List.getElem?_eq_none (by rw [bcells_len]; omega)] at hu; cases hu
    rw [hnews j hj, ← hu, bcells_at hj]
  · intro v' w' hown' hgrow _
    refine h v' w' ?_ (hB.grown hgrow hB.size (fun k hk => (World.ownsRow.lt hown k hk).1))
    unfold BRow
    rw [bcells_append, List.length_append, hl]
    exact hown'
end
theorem cell_new (W : World) (c : Nat) : ∀ j, j < [c].length → (W.alloc (.cells #[.int .u8 (c : Int)] 5)).cell? ((⟨W.heap.size, 0, none⟩ : Addr).add j) = some (.int .u8 (nth [c] j : Int)) := by
  intro j hj
  obtain rfl : j = 0 := by simp at hj; omega
  simp [go_sem, Addr.add, nth]
end Go.Proofs.Ytfkhingkmfapbaa
