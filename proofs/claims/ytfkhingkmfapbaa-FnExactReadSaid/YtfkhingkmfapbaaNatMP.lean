/- The product of numbers to the base 2^32, digit by digit: what the two loops keep. The program is not walked here. -/
import Derived.Test.YtfkhingkmfapbaaRow
namespace Go.Proofs.Ytfkhingkmfapbaa
open Go.RowKit

theorem nth_lt {ds : List Nat} (h : ∀ d ∈ ds, d < 4294967296) (i : Nat) : nth ds i < 4294967296 := Num.getD_lt h i
theorem nth_set (ds : List Nat) (p x j : Nat) (h : p < ds.length) : nth (ds.set p x) j = if p = j then x else nth ds j := by
  unfold nth
  simp only [List.getD_eq_getElem?_getD, List.getElem?_set]
  split
  · rename_i e; subst e; simp
  · rfl
theorem digits_set {ds : List Nat} {p x : Nat} (h : ∀ d ∈ ds, d < 4294967296) (hx : x < 4294967296) : ∀ d ∈ ds.set p x, d < 4294967296 := by
  intro d hd
  rcases List.mem_or_eq_of_mem_set hd with h' | h'
  · exact h d h'
  · omega
theorem digitCells_set (ds : List Nat) (p x : Nat) : digitCells (ds.set p x) = (digitCells ds).set p (.int .u32 (x : Int)) := by
  simp [digitCells, List.map_set]
/-- a digit is stored into a row -/
theorem Row.stored {w : World} {ds : List Nat} {g cap : Nat} (h : Row w (.slice (some ⟨g, 0, none⟩) ds.length cap) ds) (p x : Nat) : Row (w.setCell ⟨g, p, none⟩ (.int .u32 (x : Int))) (.slice (some ⟨g, 0, none⟩) (ds.set p x).length cap) (ds.set p x) := by
  have := (World.ownsRow.stored h p (.int .u32 (x : Int))).1
  unfold Row
  rw [digitCells_set, List.length_set]
  exact this
theorem Row.frozen {w : World} {ds : List Nat} {g cap n : Nat} (h : Row w (.slice (some ⟨g, 0, none⟩) n cap) ds) (hn : n = ds.length) (j : Nat) : w.frozen? ⟨g, j, none⟩ = false := by
  subst hn; exact World.ownsRow.frozenAt h j
theorem Row.cell {w : World} {ds : List Nat} {g cap n : Nat} (h : Row w (.slice (some ⟨g, 0, none⟩) n cap) ds) (hn : n = ds.length) (j : Nat) (hj : j < n) : w.cell? ⟨g, j, none⟩ = some (.int .u32 (nth ds j : Int)) := by
  subst hn
  rw [World.ownsRow.cellAt h j (by omega), digitCells_at ds j hj]

/-- before the i-th digit of a: the row holds the product of a's first i digits with b -/
def MulOut (w wr : World) (g N a b i : Nat) : Prop :=
  ∃ ds, Row wr (.slice (some ⟨g, 0, none⟩) N N) ds ∧ ds.length = N ∧ (∀ d ∈ ds, d < 4294967296) ∧ Num.val ds = Num.upto (Num.dig a) i * b ∧
    (∀ j, i + Num.len b ≤ j → nth ds j = 0) ∧ Below g w wr
/-- before the k-th digit of b, in the i-th round -/
def MulIn (w wr : World) (g N a b i k c : Nat) : Prop :=
  ∃ ds, Row wr (.slice (some ⟨g, 0, none⟩) N N) ds ∧ ds.length = N ∧ (∀ d ∈ ds, d < 4294967296) ∧
    Num.val ds + c * 4294967296 ^ (i + k) = Num.upto (Num.dig a) i * b + Num.dig a i * 4294967296 ^ i * Num.upto (Num.dig b) k ∧
    (∀ j, i + Num.len b ≤ j → nth ds j = 0) ∧ Below g w wr

theorem mulOut_start {w w1 : World} {g N a b : Nat} (h : w1.ownsRow w.heap.size 62 1 (.slice (some ⟨g, 0, none⟩) N N) N (madeCells #[.int .u32 0] N).toList) (hb : Below g w w1) : MulOut w w1 g N a b 0 := by
  refine ⟨List.replicate N 0, ?_, by simp, ?_, by rw [Num.val_zeros]; simp [Num.upto], ?_, hb⟩
  · have e : (madeCells #[.int .u32 0] N).toList = digitCells (List.replicate N 0) := by
      rw [toList_madeCells_one]; simp [digitCells]
    rw [e] at h
    obtain ⟨h1, h2⟩ := h
    unfold Row
    rw [List.length_replicate]
    refine ⟨h1, ?_⟩
    rcases h2 with ⟨h2, _⟩ | ⟨g', cap, cur, r1, _, r2⟩
    · simp at h2
    · exact .inr ⟨g', cap, cur, r1, Nat.zero_le _, r2⟩
  · intro d hd; rw [List.mem_replicate] at hd; omega
  · intro j _; unfold nth; rw [List.getD_eq_getElem?_getD, List.getElem?_replicate]; split <;> rfl
theorem mulIn_start {w wr : World} {g N a b i : Nat} (h : MulOut w wr g N a b i) : MulIn w wr g N a b i 0 0 := by
  obtain ⟨ds, h1, h2, h3, h4, h5, h6⟩ := h
  exact ⟨ds, h1, h2, h3, by rw [h4]; simp [Num.upto], h5, h6⟩
theorem mulIn_drewN {w wr : World} {g N a b i k c : Nat} (h : MulIn w wr g N a b i k c) (n : Nat) : MulIn w (wr.drewN n) g N a b i k c := by
  obtain ⟨ds, h1, h2, h3, h4, h5, h6⟩ := h
  exact ⟨ds, h1, h2, h3, h4, h5, h6.os, h6.tape, h6.output, h6.size, h6.block⟩
/-- what the inner round puts down -/
theorem mul_arith (v v' old x c c' t P ai bk X : Nat) (hv : v' + old * P = v + x * P) (hc : c + (old + ai * bk) = x + 4294967296 * c') (hX : v + c * P = t + X) :
    v' + c' * (P * 4294967296) = t + (X + ai * bk * P) := by
  have h1 : (c + (old + ai * bk)) * P = (x + 4294967296 * c') * P := by rw [hc]
  rw [Nat.add_mul, Nat.add_mul, Nat.add_mul] at h1
  have h2 : c' * (P * 4294967296) = 4294967296 * c' * P := by rw [Nat.mul_comm P, ← Nat.mul_assoc, Nat.mul_comm c']
  rw [h2]
  omega
theorem mulIn_step {w wr : World} {g N a b i k c : Nat} (h : MulIn w wr g N a b i k c) (hgw : g = w.heap.size) (hp : i + k < N) (hkb : k < Num.len b) :
    ∃ ds : List Nat, wr.cell? ⟨g, i + k, none⟩ = some (.int .u32 (nth ds (i + k) : Int)) ∧ wr.frozen? ⟨g, i + k, none⟩ = false ∧ nth ds (i + k) < 4294967296 ∧
      MulIn w (wr.setCell ⟨g, i + k, none⟩ (.int .u32 (((c + (nth ds (i + k) + Num.dig a i * Num.dig b k)) % 4294967296 : Nat) : Int))) g N a b i (k + 1) ((c + (nth ds (i + k) + Num.dig a i * Num.dig b k)) / 4294967296) := by
  obtain ⟨ds, h1, h2, h3, h4, h5, h6⟩ := h
  subst hgw
  refine ⟨ds, h1.cell h2.symm _ hp, h1.frozen h2.symm _, nth_lt h3 _, ?_⟩
  generalize hq : c + (nth ds (i + k) + Num.dig a i * Num.dig b k) = q
  have hr := Row.stored (cap := N) (by rw [h2]; exact h1) (i + k) (q % 4294967296)
  rw [List.length_set, h2] at hr
  refine ⟨_, hr, by rw [List.length_set, h2], digits_set h3 (by omega), ?_, ?_, h6.setCell (by exact Nat.le_refl _) _⟩
  · have hs := Num.val_set ds (p := i + k) (q % 4294967296) (by omega)
    rw [show i + (k + 1) = (i + k) + 1 from by omega, Nat.pow_succ, Num.upto, Nat.mul_add]
    have e : Num.dig a i * 4294967296 ^ i * (Num.dig b k * 4294967296 ^ k) = Num.dig a i * Num.dig b k * 4294967296 ^ (i + k) := by
      rw [Nat.pow_add, Nat.mul_assoc, Nat.mul_left_comm (4294967296 ^ i), ← Nat.mul_assoc]
    rw [e]
    exact mul_arith _ _ (nth ds (i + k)) _ c _ _ _ _ _ _ hs (by rw [hq]; omega) h4
  · intro j hj
    rw [nth_set _ _ _ _ (by omega), if_neg (by omega)]
    exact h5 j hj
theorem mulIn_end {w wr : World} {g N a b i c : Nat} (h : MulIn w wr g N a b i (Num.len b) c) (hgw : g = w.heap.size) (hp : i + Num.len b < N) (hc : c < 4294967296) :
    (∃ u, wr.cell? ⟨g, i + Num.len b, none⟩ = some u) ∧ wr.frozen? ⟨g, i + Num.len b, none⟩ = false ∧ MulOut w (wr.setCell ⟨g, i + Num.len b, none⟩ (.int .u32 (c : Int))) g N a b (i + 1) := by
  obtain ⟨ds, h1, h2, h3, h4, h5, h6⟩ := h
  subst hgw
  refine ⟨⟨_, h1.cell h2.symm _ hp⟩, h1.frozen h2.symm _, ?_⟩
  have hr := Row.stored (cap := N) (by rw [h2]; exact h1) (i + Num.len b) c
  rw [List.length_set, h2] at hr
  refine ⟨_, hr, by rw [List.length_set, h2], digits_set h3 hc, ?_, ?_, h6.setCell (by exact Nat.le_refl _) _⟩
  · have hs := Num.val_set ds (p := i + Num.len b) c (by omega)
    have hz := h5 (i + Num.len b) (Nat.le_refl _)
    unfold nth at hz
    rw [hz, Nat.zero_mul, Nat.add_zero] at hs
    rw [hs, h4, Num.upto_dig (Nat.le_refl _), Num.upto, Nat.add_mul]
  · intro j hj
    rw [nth_set _ _ _ _ (by omega), if_neg (by omega)]
    exact h5 j (by omega)
theorem mulOut_end {w wr : World} {g a b : Nat} (h : MulOut w wr g (Num.len a + Num.len b) a b (Num.len a)) :
    ∃ ds, Row wr (.slice (some ⟨g, 0, none⟩) (Num.len a + Num.len b) (Num.len a + Num.len b)) ds ∧ (∀ d ∈ ds, d < 4294967296) ∧ Num.val ds = a * b ∧ Below g w wr := by
  obtain ⟨ds, h1, h2, h3, h4, h5, h6⟩ := h
  exact ⟨ds, h1, h3, by rw [h4, Num.upto_dig (Nat.le_refl _)], h6⟩
end Go.Proofs.Ytfkhingkmfapbaa
