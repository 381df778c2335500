/- The tables powtab and leftcheats in memory, out of the rows' condition on them. -/
import Derived.Test.YtfndpecffhempaaDoorLay
import Derived.Test.YtfndpecffhempaaDoorFbD
namespace Go.Proofs.YtfndpecffhempaaDoor
open Go.RowKit

/-- the table's datum -/
def ptData {H : Type} : List (DataW H) := (List.range 9).map fun k => .lit (.int .i64 (ptN k : Int))
theorem ptData_eq : (Rows.laid_loop_example_pub_floatroads_pub_gostrconv_powtab : DataW Unit) = .slice ptData [] := by rfl
theorem gPt : Tryd.prog.globalNamed "loop.example/pub-floatroads/pub/gostrconv.powtab" = some 0 := by kernel_rfl
theorem gPtType : (Tryd.prog.globals[0]?).map (·.type) = some 95 := by kernel_rfl
theorem powt_of {W : World} {rest : List (String × DataW Unit)} {name : String} (hg : Tryd.prog.globalNamed name = some 0) (h : laidMet Tryd.prog ((name, Rows.laid_loop_example_pub_floatroads_pub_gostrconv_powtab) :: rest) W) : PowT W W.heap.size := by
  obtain ⟨ps, ⟨g', t', cs, fuel, p, q, hg', ht', hvar, hd, _, _⟩, _⟩ := h
  obtain rfl := Option.some.inj (hg.symm.trans hg')
  obtain rfl := Option.some.inj (gPtType.symm.trans ht')
  rw [ptData_eq] at hd
  rcases DataW.trod_slice Tryd.underlying95 hd with ⟨_, hx⟩ | ⟨a, len, cap, elems, more, n, rfl, hcs, hx, _, _, _, hel, hat, _, _⟩
  · cases hx
  · have hx1 := congrArg Prod.fst hx
    simp only [DataW.slice.injEq] at hx1
    obtain ⟨hx1, _⟩ := hx1
    have hlen : len = 9 := by
      have := congrArg List.length hx1
      rw [List.length_map, hel] at this
      rw [← this]; rfl
    subst hlen
    have c0 : W.cell? ⟨0, 0, none⟩ = some (.slice (some a) 9 cap) := by
      have := World.var?_cell hg hvar 0
      rw [this]
      have e : cs[0]? = cs.toList[0]? := by simp
      rw [e, hcs]; rfl
    have key : ∀ k, k < 9 → W.cell? (a.add k) = some (.int .i64 (ptN k : Int)) := by
      intro k hk
      have h1 := hat k (by omega)
      rw [cells_int, Nat.mul_one] at h1
      have hkl : k < elems.length := by omega
      rw [List.getElem?_eq_getElem hkl, Option.bind_eq_some_iff] at h1
      obtain ⟨vs, hvs, htr⟩ := h1
      obtain ⟨_, hl2, hc2⟩ := World.cells?_some hvs
      obtain ⟨z, hz, hz2, _⟩ := DataW.trod_int Tryd.underlying3 htr
      have hde : (elems[k]).1 = .lit (.int .i64 (ptN k : Int)) := by
        have e1 : (elems.map (·.1))[k]? = some (elems[k]).1 := by simp [hkl]
        rw [← hx1] at e1
        have e2 : (ptData : List (DataW Unit))[k]? = some (.lit (.int .i64 (ptN k : Int))) := by
          unfold ptData
          simp [hk]
        exact Option.some.inj (e1.symm.trans e2)
      rw [hz2] at hde
      simp only [DataW.lit.injEq, Lit.int.injEq, true_and] at hde
      subst hde
      have v0 : vs[0]? = some (.int .i64 (ptN k : Int)) := by
        have := congrArg (·[0]?) hz
        simpa [List.getElem?_take, List.getElem?_drop, cells_int] using this
      have w0 := hc2 0 (by omega)
      rw [v0] at w0
      exact w0
    have k0 := key 0 (by omega)
    rw [show a.add 0 = a from rfl] at k0
    have hsp := cell_spot k0
    have hlt := cell_lt k0
    obtain ⟨cb, co, sp⟩ := a
    simp only at hsp hlt
    subst hsp
    have hadd : ∀ i, (Addr.mk cb co none).add i = ⟨cb, co + i, none⟩ := fun i => by
      unfold Addr.add
      split
      · rename_i h0; rw [h0]; rfl
      · rfl
    refine ⟨cell_lt c0, Nat.le_refl _, cb, co, cap, hlt, c0, fun k hk => ?_⟩
    have := key k hk
    rw [hadd] at this
    exact this
theorem laid_tail {W : World} {rest : List (String × DataW Unit)} {x : String × DataW Unit} (h : laidMet Tryd.prog (x :: rest) W) : laidMet Tryd.prog rest W := by
  obtain ⟨ps, ⟨g', t', cs, fuel, p, q, hg', ht', hvar, hd, hr, hps⟩, hnd, hall⟩ := h
  refine ⟨q, hr, ?_, fun b off hm => hall b off ?_⟩
  · rw [hps] at hnd; exact (List.nodup_append.1 hnd).2.1
  · rw [hps]; exact List.mem_append_right _ hm
theorem of_FnExactFloatBits {W : World} (h : laidMetH Tryd.prog Rows.fnExactFloatBitsRow.laid W) : PowT W W.heap.size ∧ Cheat W W.heap.size := by
  rw [MakeChecks.laidMetH_plain _ _ _ (by kernel_rfl)] at h
  exact ⟨powt_of gPt h, cheat_of gCh (laid_tail h)⟩
theorem of_FnExactSlow32 {W : World} (h : laidMetH Tryd.prog Rows.fnExactSlow32Row.laid W) : PowT W W.heap.size ∧ Cheat W W.heap.size := by
  rw [MakeChecks.laidMetH_plain _ _ _ (by kernel_rfl)] at h
  exact ⟨powt_of gPt h, cheat_of gCh (laid_tail h)⟩
theorem of_FnExactSlow64 {W : World} (h : laidMetH Tryd.prog Rows.fnExactSlow64Row.laid W) : PowT W W.heap.size ∧ Cheat W W.heap.size := by
  rw [MakeChecks.laidMetH_plain _ _ _ (by kernel_rfl)] at h
  exact ⟨powt_of gPt h, cheat_of gCh (laid_tail h)⟩
theorem of_FnDecimalRoads {W : World} (h : laidMetH Tryd.prog Rows.fnDecimalRoadsRow.laid W) : PowT W W.heap.size ∧ Cheat W W.heap.size := by
  rw [MakeChecks.laidMetH_plain _ _ _ (by kernel_rfl)] at h
  exact ⟨powt_of gPt h, cheat_of gCh (laid_tail h)⟩
end Go.Proofs.YtfndpecffhempaaDoor
