/- Pow10 of the reference, by a contract; and words for blocks of known cells (Box). Condition: an exponent of at most 100000. -/
import Derived.Test.YtfkhingkmfapbaaNatS
namespace Go.Proofs.Ytfkhingkmfapbaa
open Go.RowKit

/-- block b is just these cells, of element type t, none frozen -/
def Box (w : World) (t : TypeId) (b : Nat) (vs : Array Value) : Prop := w.heap[b]? = some (.cells vs t (0, 0))
theorem Box.lt {w : World} {t : TypeId} {b : Nat} {vs : Array Value} (h : Box w t b vs) : b < w.heap.size := by
  rcases Nat.lt_or_ge b w.heap.size with hlt | hge
  · exact hlt
  · unfold Box at h; rw [Array.getElem?_eq_none hge] at h; cases h
theorem Box.cell {w : World} {t : TypeId} {b : Nat} {vs : Array Value} (h : Box w t b vs) (i : Nat) : w.cell? ⟨b, i, none⟩ = vs[i]? := cell_of_row w b i vs t (0, 0) h
theorem Box.frozen {w : World} {t : TypeId} {b : Nat} {vs : Array Value} (h : Box w t b vs) (i : Nat) : w.frozen? ⟨b, i, none⟩ = false := frozen_of_row w b i vs t h
theorem Box.new (w : World) (t : TypeId) (vs : Array Value) : Box (w.alloc (.cells vs t)) t w.heap.size vs := heap_alloc_new w _
theorem Box.later {w w' : World} {t : TypeId} {b B : Nat} {vs : Array Value} (h : Box w t b vs) (hb : Below B w w') (hB : b < B) : Box w' t b vs := (hb.block b hB).trans h
theorem Box.drewN {w : World} {t : TypeId} {b : Nat} {vs : Array Value} (h : Box w t b vs) (n : Nat) : Box (w.drewN n) t b vs := h
theorem Box.alloc {w : World} {t : TypeId} {b : Nat} {vs : Array Value} (h : Box w t b vs) (o : Obj) : Box (w.alloc o) t b vs := (Below.heap_alloc w o b h.lt).trans h
theorem Box.set {w : World} {t : TypeId} {b : Nat} {vs : Array Value} (h : Box w t b vs) (i : Nat) (u : Value) : Box (w.setCell ⟨b, i, none⟩ u) t b (vs.setIfInBounds i u) := heap_setCell_same w b i vs t u h
theorem Box.far {w : World} {t : TypeId} {b : Nat} {vs : Array Value} (h : Box w t b vs) {p : Addr} (hp : b ≠ p.block) (u : Value) : Box (w.setCell p u) t b vs := (Below.heap_setCell w p u b hp).trans h
/-- a row of digits is kept where a cell of a block of another element type is written -/
theorem Row.far {w : World} {v : Value} {ds : List Nat} {t : TypeId} {b : Nat} {vs : Array Value} (h : Row w v ds) (hb : Box w t b vs) (ht : t ≠ 62) (i : Nat) (u : Value) : Row (w.setCell ⟨b, i, none⟩ u) v ds := by
  obtain ⟨h1, h2⟩ := h
  refine ⟨h1, ?_⟩
  rcases h2 with h2 | ⟨g, cap, cur, r1, r2, hh, r3⟩
  · exact .inl h2
  · refine .inr ⟨g, cap, cur, r1, r2, (Below.heap_setCell w ⟨b, i, none⟩ u g ?_).trans hh, r3⟩
    rintro rfl
    unfold Box at hb
    rw [hh] at hb
    injection hb with hb
    injection hb with _ he
    exact ht he.symm
theorem IsNat.far {w : World} {v : Value} {n : Nat} {t : TypeId} {b : Nat} {vs : Array Value} (h : IsNat w v n) (hb : Box w t b vs) (ht : t ≠ 62) (i : Nat) (u : Value) : IsNat (w.setCell ⟨b, i, none⟩ u) v n := Row.far h hb ht i u

theorem len_ten : Num.len 10 = 1 := Num.len_small (by decide) (by decide)
set_option maxHeartbeats 400000 in
theorem pow10_any (n : Int) (w : World) (h1 : n ≤ 100000) : Calls Try.prog 40 #[.int .i64 n] w (GivesNat (10 ^ n.toNat) w) := by
  by_cases h0 : 0 ≤ n
  · obtain ⟨n, rfl⟩ := Int.eq_ofNat_of_zero_le h0
    rw [Int.toNat_natCast]
    go_enter Try.func40, Try.ntmps40
    go_wp2_with fail
    refine (one_any _).mono ?_
    rintro e w1 ⟨v, rfl, hv, hb⟩
    have HV := Lib.hid hv
    have HB := Lib.hid hb
    clear hv hb
    go_wp2_with fail
    go_loopw [3, 4] (fun v i wr => ∃ k : Nat, k ≤ n ∧ i = .int .i64 k ∧ Hid (IsNat wr v (10 ^ k)) ∧ Hid (Below w.heap.size w wr)) (fun _ i _ => n - (intOf i).toNat)
    case atStart => exact ⟨0, by omega, rfl, HV.out, HB.out⟩
    case round =>
      obtain ⟨k, hk, rfl, hv, hb⟩ := hrel
      by_cases hlt : k < n
      · have hl := Num.len_pow10 k
        have h10 := len_ten
        have H10 := Lib.hid (show Num.len (10 ^ k) + Num.len 10 ≤ 1000000 by omega)
        clear hl h10
        go_wp2_with fail
        refine (natMul_any _ _ (10 ^ k) 10 _ (hv.out.alloc _) (isNat_small _ 10 (by decide) (by decide)) H10.out).mono ?_
        rintro e w2 ⟨v2, rfl, hv2, hb2⟩
        have H1 := Lib.hid hv2
        have H2 := Lib.hid (((hb.out.alloc hb.out.size _).trans (hb2.mono (Nat.le_trans hb.out.size (by simp)))))
        clear hv2 hb2
        go_wp2_with fail
        go_roundw
        case rel => exact ⟨k + 1, by omega, by go_num, by rw [Nat.pow_succ]; exact H1.out, H2.out⟩
        case measure => simp [intOf]; omega
      · obtain rfl : k = n := by omega
        go_wp2_with fail
        go_ret
        exact GivesNat.mk hv.out hb.out
  · have e : n.toNat = 0 := by omega
    rw [e]
    go_enter Try.func40, Try.ntmps40
    go_wp2_with fail
    refine (one_any _).mono ?_
    rintro e w1 ⟨v, rfl, hv, hb⟩
    have HV := Lib.hid hv
    have HB := Lib.hid hb
    clear hv hb
    go_wp2_with fail
    refine wp_loop_rounds 1 ?_
    rw [rounds_succ]
    go_wp2_with fail
    go_ret
    exact GivesNat.mk HV.out HB.out
end Go.Proofs.Ytfkhingkmfapbaa
