/- The table leftcheats in memory, out of the row's condition on it. -/
import Derived.Test.YtfndpecffhempaaDoorRows
import Derived.Test.YtfndpecffhempaaDoorLSh
import Derived.ChangeSame
import Derived.MakeChecks
import Derived.LaidLaws
namespace Go.Proofs.YtfndpecffhempaaDoor
open Go.RowKit

theorem cell_spot {w : World} {a : Addr} {v : Value} (h : w.cell? a = some v) : a.spot = none := by
  unfold World.cell? at h
  split at h
  · split at h
    · cases h
    · rename_i hn
      cases hs : a.spot with
      | none => rfl
      | some x => rw [hs] at hn; simp at hn
  · cases h
theorem cell_lt {w : World} {a : Addr} {v : Value} (h : w.cell? a = some v) : a.block < w.heap.size := by
  unfold World.cell? at h
  rcases Nat.lt_or_ge a.block w.heap.size with h1 | h1
  · exact h1
  · rw [Array.getElem?_eq_none h1] at h; cases h
/-- the table's datum -/
def chData {H : Type} : List (DataW H) := chT.map fun t => .agg [.lit (.int .i64 (t.1 : Int)), .lit (.string (t.2.map UInt8.ofNat))]
theorem chData_eq : (Rows.laid_loop_example_pub_floatroads_pub_gostrconv_leftcheats : DataW Unit) = .slice chData [] := by rfl
theorem gCh : Tryd.prog.globalNamed "loop.example/pub-floatroads/pub/gostrconv.leftcheats" = some 1 := by kernel_rfl
theorem gChType : (Tryd.prog.globals[1]?).map (·.type) = some 101 := by kernel_rfl
theorem cells_ch : Tryd.prog.cellsOf 100 = 2 := by kernel_rfl
theorem cells_int : Tryd.prog.cellsOf 3 = 1 := by kernel_rfl
theorem cells_str : Tryd.prog.cellsOf 9 = 1 := by kernel_rfl
theorem ba_eq {s : ByteArray} {l : List Nat} (h : s.data.toList = l.map UInt8.ofNat) : s = bs l := by
  apply ByteArray.ext
  apply Array.ext'
  rw [h, bs_data]
theorem add_add1 (a : Addr) (i : Nat) : (a.add i).add 1 = a.add (i + 1) := by
  unfold Addr.add
  by_cases h : i = 0
  · subst h; rfl
  · simp [h, Nat.add_assoc]
theorem cheat_of {W : World} {rest : List (String × DataW Unit)} {name : String} (hg : Tryd.prog.globalNamed name = some 1) (h : laidMet Tryd.prog ((name, Rows.laid_loop_example_pub_floatroads_pub_gostrconv_leftcheats) :: rest) W) : Cheat W W.heap.size := by
  obtain ⟨ps, ⟨g', t', cs, fuel, p, q, hg', ht', hvar, hd, _, _⟩, _⟩ := h
  obtain rfl := Option.some.inj (hg.symm.trans hg')
  obtain rfl := Option.some.inj (gChType.symm.trans ht')
  rw [chData_eq] at hd
  rcases DataW.trod_slice Tryd.underlying101 hd with ⟨_, hx⟩ | ⟨a, len, cap, elems, more, n, rfl, hcs, hx, _, _, _, hel, hat, _, _⟩
  · cases hx
  · have hx1 := congrArg Prod.fst hx
    simp only [DataW.slice.injEq] at hx1
    obtain ⟨hx1, _⟩ := hx1
    have hlen : len = 61 := by
      have := congrArg List.length hx1
      rw [List.length_map, hel] at this
      rw [← this]; rfl
    subst hlen
    have c0 : W.cell? ⟨1, 0, none⟩ = some (.slice (some a) 61 cap) := by
      have := World.var?_cell hg hvar 0
      rw [this]
      have e : cs[0]? = cs.toList[0]? := by simp
      rw [e, hcs]; rfl
    have key : ∀ k, k ≤ 60 → W.cell? (a.add (k * 2)) = some (.int .i64 (chD k : Int)) ∧ W.cell? (a.add (k * 2 + 1)) = some (.string (bs (chC k))) := by
      intro k hk
      have h1 := hat k (by omega)
      rw [cells_ch] at h1
      have hkl : k < elems.length := by omega
      rw [List.getElem?_eq_getElem hkl, Option.bind_eq_some_iff] at h1
      obtain ⟨vs, hvs, htr⟩ := h1
      obtain ⟨_, hl2, hc2⟩ := World.cells?_some hvs
      obtain ⟨y0, y1, m, hy, _, hf0, hf1⟩ := ChangeShapes.trod_struct2 Tryd.underlying100 htr
      obtain ⟨z, hz, hz2, _⟩ := DataW.trod_int Tryd.underlying3 hf0
      obtain ⟨s, hs, hs2, _⟩ := DataW.trod_string Tryd.underlying9 hf1
      have hde : (elems[k]).1 = .agg [.lit (.int .i64 (chD k : Int)), .lit (.string ((chC k).map UInt8.ofNat))] := by
        have e1 : (elems.map (·.1))[k]? = some (elems[k]).1 := by simp [hkl]
        rw [← hx1] at e1
        have e2 : (chData : List (DataW Unit))[k]? = some (.agg [.lit (.int .i64 (chD k : Int)), .lit (.string ((chC k).map UInt8.ofNat))]) := by
          have hc : k < chT.length := by show k < 61; omega
          unfold chData chD chC
          rw [List.getElem?_map, List.getElem?_eq_getElem hc]
          simp [List.getD_eq_getElem?_getD, List.getElem?_eq_getElem hc]
        exact Option.some.inj (e1.symm.trans e2)
      rw [hy, hz2, hs2] at hde
      simp only [DataW.agg.injEq, List.cons.injEq, DataW.lit.injEq, Lit.int.injEq, Lit.string.injEq, true_and, and_true] at hde
      obtain ⟨hd1, hd2⟩ := hde
      subst hd1
      have hs3 := ba_eq hd2
      subst hs3
      have v0 : vs[0]? = some (.int .i64 (chD k : Int)) := by
        have := congrArg (·[0]?) hz
        simpa [List.getElem?_take, List.getElem?_drop, cells_int] using this
      have v1 : vs[1]? = some (.string (bs (chC k))) := by
        have := congrArg (·[0]?) hs
        simpa [List.getElem?_take, List.getElem?_drop, cells_str] using this
      have w0 := hc2 0 (by omega)
      have w1 := hc2 1 (by omega)
      rw [v0] at w0
      rw [v1] at w1
      rw [add_add1] at w1
      exact ⟨w0, w1⟩
    have k0 := (key 0 (by omega)).1
    rw [show a.add (0 * 2) = a from rfl] at k0
    have hsp := cell_spot k0
    have hlt := cell_lt k0
    obtain ⟨cb, co, sp⟩ := a
    simp only at hsp hlt
    subst hsp
    have hadd : ∀ i, (Addr.mk cb co none).add i = ⟨cb, co + i, none⟩ := fun i => by
      unfold Addr.add
      split
      · rename_i h0; rw [h0]; rfl
      · rfl
    refine ⟨cell_lt c0, Nat.le_refl _, cb, co, cap, hlt, c0, fun k hk => ?_⟩
    have := key k hk
    rw [hadd, hadd] at this
    exact ⟨this.1, by rw [Nat.add_assoc]; exact this.2⟩
theorem of_FnExactShift {W : World} (h : laidMetH Tryd.prog Rows.fnExactShiftRow.laid W) : Cheat W W.heap.size := by
  rw [MakeChecks.laidMetH_plain _ _ _ (by kernel_rfl)] at h
  exact cheat_of gCh h
theorem of_FnShiftBack {W : World} (h : laidMetH Tryd.prog Rows.fnShiftBackRow.laid W) : Cheat W W.heap.size := by
  rw [MakeChecks.laidMetH_plain _ _ _ (by kernel_rfl)] at h
  exact cheat_of gCh h
theorem of_FnShiftSum {W : World} (h : laidMetH Tryd.prog Rows.fnShiftSumRow.laid W) : Cheat W W.heap.size := by
  rw [MakeChecks.laidMetH_plain _ _ _ (by kernel_rfl)] at h
  exact cheat_of gCh h
end Go.Proofs.YtfndpecffhempaaDoor
