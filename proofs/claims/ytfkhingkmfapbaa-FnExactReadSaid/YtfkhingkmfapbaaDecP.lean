/- The package's decimal numbers in memory (DecBox): a block of 800 digits, their number, the point, the sign, the mark. No function of the program is walked here. -/
import Derived.Test.YtfkhingkmfapbaaStrA
namespace Go.Proofs.Ytfkhingkmfapbaa
open Go.RowKit

/-- the cells of a decimal: 800 digits, how many are used, the point, the sign, whether digits were cut off -/
def decCells (D : List Nat) (nd dp : Int) (neg tr : Bool) : Array Value := ((D.map fun (n : Nat) => Value.int .u8 (n : Int)) ++ [Value.int .i64 nd, Value.int .i64 dp, Value.bool neg, Value.bool tr]).toArray
/-- block b is this decimal -/
def DecBox (w : World) (b : Nat) (D : List Nat) (nd dp : Int) (neg tr : Bool) : Prop := D.length = 800 ∧ Bytes D ∧ Box w 95 b (decCells D nd dp neg tr)

theorem decCells_at {D : List Nat} {nd dp : Int} {neg tr : Bool} (h : D.length = 800) {i : Nat} (hi : i < 800) : (decCells D nd dp neg tr)[i]? = some (.int .u8 (nth D i : Int)) := by
  unfold decCells
  rw [List.getElem?_toArray, List.getElem?_append_left (by simp; omega)]
  simp [nth, List.getD_eq_getElem?_getD, show i < D.length by omega]
theorem decCells_nd {D : List Nat} {nd dp : Int} {neg tr : Bool} (h : D.length = 800) : (decCells D nd dp neg tr)[800]? = some (.int .i64 nd) := by
  unfold decCells
  rw [List.getElem?_toArray, List.getElem?_append_right (by simp; omega)]
  simp [h]
theorem decCells_dp {D : List Nat} {nd dp : Int} {neg tr : Bool} (h : D.length = 800) : (decCells D nd dp neg tr)[801]? = some (.int .i64 dp) := by
  unfold decCells
  rw [List.getElem?_toArray, List.getElem?_append_right (by simp; omega)]
  simp [h]
theorem decCells_neg {D : List Nat} {nd dp : Int} {neg tr : Bool} (h : D.length = 800) : (decCells D nd dp neg tr)[802]? = some (.bool neg) := by
  unfold decCells
  rw [List.getElem?_toArray, List.getElem?_append_right (by simp; omega)]
  simp [h]
theorem decCells_tr {D : List Nat} {nd dp : Int} {neg tr : Bool} (h : D.length = 800) : (decCells D nd dp neg tr)[803]? = some (.bool tr) := by
  unfold decCells
  rw [List.getElem?_toArray, List.getElem?_append_right (by simp; omega)]
  simp [h]
theorem decCells_set {D : List Nat} {nd dp : Int} {neg tr : Bool} (h : D.length = 800) {i c : Nat} (hi : i < 800) : (decCells D nd dp neg tr).setIfInBounds i (.int .u8 (c : Int)) = decCells (D.set i c) nd dp neg tr := by
  unfold decCells
  rw [List.setIfInBounds_toArray, List.set_append_left _ _ (by simp; omega), List.map_set]
theorem decCells_setNd {D : List Nat} {nd dp n : Int} {neg tr : Bool} (h : D.length = 800) : (decCells D nd dp neg tr).setIfInBounds 800 (.int .i64 n) = decCells D n dp neg tr := by
  unfold decCells
  rw [List.setIfInBounds_toArray, List.set_append_right _ _ (by simp; omega)]
  simp [h]
theorem decCells_setDp {D : List Nat} {nd dp n : Int} {neg tr : Bool} (h : D.length = 800) : (decCells D nd dp neg tr).setIfInBounds 801 (.int .i64 n) = decCells D nd n neg tr := by
  unfold decCells
  rw [List.setIfInBounds_toArray, List.set_append_right _ _ (by simp; omega)]
  simp [h]
theorem decCells_setNeg {D : List Nat} {nd dp : Int} {neg tr n : Bool} (h : D.length = 800) : (decCells D nd dp neg tr).setIfInBounds 802 (.bool n) = decCells D nd dp n tr := by
  unfold decCells
  rw [List.setIfInBounds_toArray, List.set_append_right _ _ (by simp; omega)]
  simp [h]
theorem decCells_setTr {D : List Nat} {nd dp : Int} {neg tr n : Bool} (h : D.length = 800) : (decCells D nd dp neg tr).setIfInBounds 803 (.bool n) = decCells D nd dp neg n := by
  unfold decCells
  rw [List.setIfInBounds_toArray, List.set_append_right _ _ (by simp; omega)]
  simp [h]

section
variable {w w' : World} {b : Nat} {D : List Nat} {nd dp : Int} {neg tr : Bool}
theorem DecBox.at_ (h : DecBox w b D nd dp neg tr) {i : Nat} (hi : i < 800) : w.cell? ⟨b, i, none⟩ = some (.int .u8 (nth D i : Int)) := (h.2.2.cell i).trans (decCells_at h.1 hi)
theorem DecBox.nd_ (h : DecBox w b D nd dp neg tr) : w.cell? ⟨b, 800, none⟩ = some (.int .i64 nd) := (h.2.2.cell 800).trans (decCells_nd h.1)
theorem DecBox.dp_ (h : DecBox w b D nd dp neg tr) : w.cell? ⟨b, 801, none⟩ = some (.int .i64 dp) := (h.2.2.cell 801).trans (decCells_dp h.1)
theorem DecBox.neg_ (h : DecBox w b D nd dp neg tr) : w.cell? ⟨b, 802, none⟩ = some (.bool neg) := (h.2.2.cell 802).trans (decCells_neg h.1)
theorem DecBox.tr_ (h : DecBox w b D nd dp neg tr) : w.cell? ⟨b, 803, none⟩ = some (.bool tr) := (h.2.2.cell 803).trans (decCells_tr h.1)
theorem DecBox.free (h : DecBox w b D nd dp neg tr) (i : Nat) : w.frozen? ⟨b, i, none⟩ = false := h.2.2.frozen i
theorem DecBox.lt (h : DecBox w b D nd dp neg tr) : b < w.heap.size := h.2.2.lt
theorem DecBox.drewN (h : DecBox w b D nd dp neg tr) (n : Nat) : DecBox (w.drewN n) b D nd dp neg tr := h
theorem DecBox.drew (h : DecBox w b D nd dp neg tr) : DecBox w.drew b D nd dp neg tr := h
theorem DecBox.alloc (h : DecBox w b D nd dp neg tr) (o : Obj) : DecBox (w.alloc o) b D nd dp neg tr := ⟨h.1, h.2.1, h.2.2.alloc o⟩
theorem DecBox.later {B : Nat} (h : DecBox w b D nd dp neg tr) (hb : Below B w w') (hB : b < B) : DecBox w' b D nd dp neg tr := ⟨h.1, h.2.1, h.2.2.later hb hB⟩
theorem bytes_set {D : List Nat} {i c : Nat} (h : Bytes D) (hc : c < 256) : Bytes (D.set i c) := fun x hx => by
  rcases List.mem_or_eq_of_mem_set hx with h' | h'
  · exact h x h'
  · omega
theorem DecBox.set (h : DecBox w b D nd dp neg tr) {i c : Nat} (hi : i < 800) (hc : c < 256) : DecBox (w.setCell ⟨b, i, none⟩ (.int .u8 (c : Int))) b (D.set i c) nd dp neg tr :=
  ⟨by rw [List.length_set]; exact h.1, bytes_set h.2.1 hc, by have := h.2.2.set i (.int .u8 (c : Int)); rwa [decCells_set h.1 hi] at this⟩
theorem DecBox.setNd (h : DecBox w b D nd dp neg tr) (n : Int) : DecBox (w.setCell ⟨b, 800, none⟩ (.int .i64 n)) b D n dp neg tr :=
  ⟨h.1, h.2.1, by have := h.2.2.set 800 (.int .i64 n); rwa [decCells_setNd h.1] at this⟩
theorem DecBox.setDp (h : DecBox w b D nd dp neg tr) (n : Int) : DecBox (w.setCell ⟨b, 801, none⟩ (.int .i64 n)) b D nd n neg tr :=
  ⟨h.1, h.2.1, by have := h.2.2.set 801 (.int .i64 n); rwa [decCells_setDp h.1] at this⟩
theorem DecBox.setNeg (h : DecBox w b D nd dp neg tr) (n : Bool) : DecBox (w.setCell ⟨b, 802, none⟩ (.bool n)) b D nd dp n tr :=
  ⟨h.1, h.2.1, by have := h.2.2.set 802 (.bool n); rwa [decCells_setNeg h.1] at this⟩
theorem DecBox.setTr (h : DecBox w b D nd dp neg tr) (n : Bool) : DecBox (w.setCell ⟨b, 803, none⟩ (.bool n)) b D nd dp neg n :=
  ⟨h.1, h.2.1, by have := h.2.2.set 803 (.bool n); rwa [decCells_setTr h.1] at this⟩
theorem DecBox.far (h : DecBox w b D nd dp neg tr) {p : Addr} (hp : b ≠ p.block) (u : Value) : DecBox (w.setCell p u) b D nd dp neg tr := ⟨h.1, h.2.1, h.2.2.far hp u⟩
end

/-- of what was there only block b may have turned -/
def Only (b : Nat) (w w' : World) : Prop := w.grownBy w' (some b)
theorem Only.refl (b : Nat) (w : World) : Only b w w := ⟨rfl, rfl, rfl, Nat.le_refl _, fun _ _ _ => rfl⟩
theorem Only.trans {b : Nat} {x y z : World} (h : Only b x y) (k : Only b y z) : Only b x z :=
  ⟨k.os.trans h.os, k.tape.trans h.tape, k.output.trans h.output, Nat.le_trans h.size k.size, fun i hi hne => (k.block i (Nat.lt_of_lt_of_le hi h.size) hne).trans (h.block i hi hne)⟩
theorem Only.drewN {b : Nat} {x y : World} (h : Only b x y) (n : Nat) : Only b x (y.drewN n) := ⟨h.os, h.tape, h.output, h.size, h.block⟩
theorem Only.drew {b : Nat} {x y : World} (h : Only b x y) : Only b x y.drew := ⟨h.os, h.tape, h.output, h.size, h.block⟩
theorem Only.setCell {b : Nat} {x y : World} (h : Only b x y) (i : Nat) (u : Value) : Only b x (y.setCell ⟨b, i, none⟩ u) :=
  h.trans ⟨rfl, rfl, rfl, by simp [World.setCell], fun k _ hne => Below.heap_setCell _ _ _ _ (fun e => hne (by rw [e]))⟩
theorem Only.alloc {b : Nat} {x y : World} (h : Only b x y) (o : Obj) : Only b x (y.alloc o) :=
  h.trans ⟨rfl, rfl, rfl, by simp, fun _ hk _ => Below.heap_alloc _ _ _ hk⟩
theorem Only.setNew {b : Nat} {x y : World} (h : Only b x y) {p : Addr} (hp : x.heap.size ≤ p.block) (u : Value) : Only b x (y.setCell p u) :=
  ⟨h.os, h.tape, h.output, by simpa [World.setCell] using h.size, fun k hk hne => (Below.heap_setCell _ _ _ _ (by omega)).trans (h.block k hk hne)⟩
theorem Only.below {b B : Nat} {x y : World} (h : Only b x y) (hb : B ≤ b) (hB : B ≤ x.heap.size) : Below B x y :=
  ⟨h.os, h.tape, h.output, h.size, fun k hk => h.block k (by omega) (fun e => by injection e with e; omega)⟩
theorem Only.of_below {b : Nat} {x y : World} (h : Below x.heap.size x y) : Only b x y := ⟨h.os, h.tape, h.output, h.size, fun k hk _ => h.block k hk⟩

/-- a method of a decimal: it returns nothing, and leaves this decimal in its block -/
def Makes (b : Nat) (D : List Nat) (nd dp : Int) (neg tr : Bool) (w : World) (e : Ending) (w' : World) : Prop := e = .returned (.tuple #[]) ∧ DecBox w' b D nd dp neg tr ∧ Only b w w'
def ndAt (b : Nat) (w : World) : Nat := match w.cell? ⟨b, 800, none⟩ with | some v => (intOf v).toNat | none => 0
theorem DecBox.ndAt {w : World} {b : Nat} {D : List Nat} {nd dp : Int} {neg tr : Bool} (h : DecBox w b D nd dp neg tr) : ndAt b w = nd.toNat := by unfold Go.Proofs.Ytfkhingkmfapbaa.ndAt; rw [h.nd_]; rfl

theorem zero_decimal : Try.zeroCells95 = decCells (List.replicate 800 0) 0 0 false false := by kernel_rfl
theorem DecBox.new (w : World) : DecBox (w.alloc (.cells Try.zeroCells95 95)) w.heap.size (List.replicate 800 0) 0 0 false false :=
  ⟨List.length_replicate, fun x hx => by rw [List.mem_replicate] at hx; omega, by rw [zero_decimal]; exact Box.new _ _ _⟩
end Go.Proofs.Ytfkhingkmfapbaa
