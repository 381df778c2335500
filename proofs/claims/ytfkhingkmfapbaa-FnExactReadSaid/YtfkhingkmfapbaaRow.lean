/- Slices of digits to the base 2^32 in memory: what a slice value reads as (Row), that it stays so, and what its parts are. No function of the program is walked here. -/
import Derived.Test.YtfkhingkmfapbaaProg
import Derived.Test.YtfkhingkmfapbaaNum
import Derived.WalkKit
import Derived.WalkLawsBesides
import Derived.Deep.QuietTactic
import Derived.BigQuiet
import Derived.Handy
import Derived.Lib.Hide
import Derived.Laws.BitsAllLaws
namespace Go.Proofs.Ytfkhingkmfapbaa
open Go.RowKit

def nth (ds : List Nat) (i : Nat) : Nat := ds.getD i 0
def digitCells (ds : List Nat) : List Value := ds.map fun (d : Nat) => .int .u32 (d : Int)
theorem length_digitCells (ds : List Nat) : (digitCells ds).length = ds.length := by simp [digitCells]
theorem digitCells_at (ds : List Nat) (j : Nat) (h : j < ds.length) : (digitCells ds)[j]? = some (.int .u32 (nth ds j : Int)) := by
  simp [digitCells, nth, List.getD_eq_getElem?_getD, h]
theorem digitCells_one (ds : List Nat) : ∀ u ∈ digitCells ds, u.oneCell' = true := by
  intro u hu
  simp only [digitCells, List.mem_map] at hu
  obtain ⟨d, _, rfl⟩ := hu
  rfl

/-- the slice value v holds the digits ds -/
def Row (w : World) (v : Value) (ds : List Nat) : Prop := w.ownsRow 0 62 1 v ds.length (digitCells ds)
/-- the slice value v is the number n -/
def IsNat (w : World) (v : Value) (n : Nat) : Prop := Row w v (Num.dg n)

theorem Row.shape {w : World} {v : Value} {ds : List Nat} (h : Row w v ds) :
    (v = .slice none 0 0 ∧ ds = []) ∨ ∃ g cap, v = .slice (some ⟨g, 0, none⟩) ds.length cap ∧ g < w.heap.size ∧ ds.length ≤ cap ∧ cap ≤ 9223372036854775807 ∧
      ∀ j, j < ds.length → w.cell? ⟨g, j, none⟩ = some (.int .u32 (nth ds j : Int)) := by
  have h' := h
  rcases h.2 with ⟨rfl, hn⟩ | ⟨g, cap, cur, rfl, _, hh, hnc, hcm, _, _⟩
  · exact .inl ⟨rfl, List.eq_nil_of_length_eq_zero hn⟩
  · refine .inr ⟨g, cap, rfl, ?_, hnc, by simpa [maxLen] using hcm, fun j hj => ?_⟩
    · rcases Nat.lt_or_ge g w.heap.size with hlt | hge
      · exact hlt
      · rw [Array.getElem?_eq_none hge] at hh; cases hh
    · rw [World.ownsRow.cellAt h' j (by omega), digitCells_at ds j hj]
theorem Row.take {w : World} {ds : List Nat} {g cap k : Nat} (h : Row w (.slice (some ⟨g, 0, none⟩) ds.length cap) ds) (hk : k ≤ ds.length) : Row w (.slice (some ⟨g, 0, none⟩) k cap) (ds.take k) := by
  rcases h.2 with ⟨h', _⟩ | ⟨g', cap', cur, h', hb, hh, hnc, hcm, hcs, htake⟩
  · simp at h'
  · simp only [Value.slice.injEq, Option.some.injEq, Addr.mk.injEq, and_true, true_and] at h'
    obtain ⟨rfl, rfl⟩ := h'
    have hl : (ds.take k).length = k := by simp; omega
    unfold Row
    rw [hl]
    refine ⟨by rw [length_digitCells, hl]; omega, .inr ⟨g, cap, cur, rfl, hb, hh, by omega, hcm, hcs, ?_⟩⟩
    have e1 : digitCells (ds.take k) = (digitCells ds).take k := by simp [digitCells, List.map_take]
    rw [e1, ← htake, List.take_take]
    congr 1
    omega
theorem Row.block {w : World} {v : Value} {ds : List Nat} (h : Row w v ds) : ∀ k, v.ownBlock = some k → k < w.heap.size := fun k hk => (World.ownsRow.lt h k hk).2
theorem Row.below {w w' : World} {v : Value} {ds : List Nat} {B : Nat} (h : Row w v ds) (hb : Below B w w') (hB : ∀ k, v.ownBlock = some k → k < B) : Row w' v ds := by
  obtain ⟨h1, h2⟩ := h
  refine ⟨h1, ?_⟩
  rcases h2 with h2 | ⟨g, cap, cur, hv, hg, hh, r⟩
  · exact .inl h2
  · exact .inr ⟨g, cap, cur, hv, hg, (hb.block g (hB g (by subst hv; rfl))).trans hh, r⟩
theorem Row.later {w w' : World} {v : Value} {ds : List Nat} (h : Row w v ds) (hb : Below w.heap.size w w') : Row w' v ds := h.below hb h.block
theorem Row.drewN {w : World} {v : Value} {ds : List Nat} (h : Row w v ds) (n : Nat) : Row (w.drewN n) v ds := h
theorem Row.drew {w : World} {v : Value} {ds : List Nat} (h : Row w v ds) : Row w.drew v ds := h
theorem Row.alloc {w : World} {v : Value} {ds : List Nat} (h : Row w v ds) (o : Obj) : Row (w.alloc o) v ds := World.ownsRow.alloc h o

theorem IsNat.later {w w' : World} {v : Value} {n : Nat} (h : IsNat w v n) (hb : Below w.heap.size w w') : IsNat w' v n := Row.later h hb
theorem IsNat.drewN {w : World} {v : Value} {n : Nat} (h : IsNat w v n) (k : Nat) : IsNat (w.drewN k) v n := h
theorem IsNat.alloc {w : World} {v : Value} {n : Nat} (h : IsNat w v n) (o : Obj) : IsNat (w.alloc o) v n := Row.alloc h o
/-- a number's slice: nil, or a row of its digits -/
theorem IsNat.shape {w : World} {v : Value} {n : Nat} (h : IsNat w v n) :
    (v = .slice none 0 0 ∧ n = 0) ∨ ∃ g cap, v = .slice (some ⟨g, 0, none⟩) (Num.len n) cap ∧ g < w.heap.size ∧ Num.len n ≤ cap ∧ cap ≤ 9223372036854775807 ∧
      ∀ j, j < Num.len n → w.cell? ⟨g, j, none⟩ = some (.int .u32 (Num.dig n j : Int)) := by
  rcases Row.shape h with ⟨rfl, hd⟩ | ⟨g, cap, rfl, h1, h2, h3, h4⟩
  · refine .inl ⟨rfl, ?_⟩
    rw [← Num.val_dg n, hd]; rfl
  · exact .inr ⟨g, cap, rfl, h1, h2, h3, h4⟩
def lenOf : Value → Nat | .slice _ n _ => n | _ => 0

theorem info_u32 : (Try.prog.info? 62).map (fun i => (i.zero, i.size, i.bytes)) = some (some (.int .u32 0), 1, 4) := by kernel_rfl

/-- a call hands back the number n in memory of its own; nothing that was there has turned -/
def GivesNat (n : Nat) (w : World) (e : Ending) (w' : World) : Prop := ∃ v, e = .returned v ∧ IsNat w' v n ∧ Below w.heap.size w w'
theorem GivesNat.mk {n : Nat} {w w' : World} {v : Value} (h : IsNat w' v n) (hb : Below w.heap.size w w') : GivesNat n w (.returned v) w' := ⟨v, rfl, h, hb⟩
end Go.Proofs.Ytfkhingkmfapbaa
