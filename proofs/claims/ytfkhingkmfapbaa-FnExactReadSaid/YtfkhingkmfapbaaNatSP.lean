/- A number to the base 2^32 times a power of 2, digit by digit: what the loop keeps. The program is not walked here. -/
import Derived.Test.YtfkhingkmfapbaaNatMP
namespace Go.Proofs.Ytfkhingkmfapbaa
open Go.RowKit

theorem two_split (n : Nat) : 2 ^ n = 2 ^ (n % 32) * 4294967296 ^ (n / 32) := by
  rw [Num.pow_base, ← Nat.pow_add]
  congr 1
  omega
theorem pow_small (n : Nat) : 2 ^ (n % 32) < 4294967296 := by
  have : (2 : Nat) ^ (n % 32) < 2 ^ 32 := Nat.pow_lt_pow_right (by omega) (by omega)
  simpa using this

def ShlInv (w wr : World) (a n i : Nat) (v : Value) (c : Nat) : Prop :=
  ∃ ds, wr.ownsRow w.heap.size 62 1 v ds.length (digitCells ds) ∧ (∀ d ∈ ds, d < 4294967296) ∧ ds.length = n / 32 + i ∧ c < 2 ^ (n % 32) ∧
    Num.val ds + c * 4294967296 ^ (n / 32 + i) = Num.upto (Num.dig a) i * 2 ^ n ∧ Below w.heap.size w wr

theorem ownsRow_digits {w1 : World} {base N : Nat} {v : Value} (h : w1.ownsRow base 62 1 v N (madeCells #[.int .u32 0] N).toList) : w1.ownsRow base 62 1 v (List.replicate N 0).length (digitCells (List.replicate N 0)) := by
  have e : (madeCells #[.int .u32 0] N).toList = digitCells (List.replicate N 0) := by
    rw [toList_madeCells_one]; simp [digitCells]
  rw [e] at h
  rw [List.length_replicate]
  exact h
theorem row_of_own {w : World} {base : Nat} {v : Value} {ds : List Nat} (h : w.ownsRow base 62 1 v ds.length (digitCells ds)) : Row w v ds := by
  obtain ⟨h1, h2⟩ := h
  refine ⟨h1, ?_⟩
  rcases h2 with h2 | ⟨g, cap, cur, r1, _, r2⟩
  · exact .inl h2
  · exact .inr ⟨g, cap, cur, r1, Nat.zero_le _, r2⟩
theorem digitCells_snoc (ds : List Nat) (x : Nat) : digitCells (ds ++ [x]) = digitCells ds ++ [.int .u32 (x : Int)] := by simp [digitCells]
theorem digits_snoc {ds : List Nat} {x : Nat} (h : ∀ d ∈ ds, d < 4294967296) (hx : x < 4294967296) : ∀ d ∈ ds ++ [x], d < 4294967296 := by
  intro d hd
  rcases List.mem_append.1 hd with h' | h'
  · exact h d h'
  · simp at h'; omega

theorem shl_start {w w1 : World} {a n : Nat} {v : Value} (h : w1.ownsRow w.heap.size 62 1 v (n / 32) (madeCells #[.int .u32 0] (n / 32)).toList) (hb : Below w.heap.size w w1) : ShlInv w w1 a n 0 v 0 :=
  ⟨_, ownsRow_digits h, fun d hd => by rw [List.mem_replicate] at hd; omega, by simp, Nat.two_pow_pos _, by rw [Num.val_zeros]; simp [Num.upto], hb⟩

theorem shl_or (a n i c : Nat) (hc : c < 2 ^ (n % 32)) :
    bits BinOp.or IntKind.u64 (c : Int) (IntKind.u64.wrap ((Num.dig a i : Int) * 2 ^ (n % 32))) = ((c + Num.dig a i * 2 ^ (n % 32) : Nat) : Int) ∧ c + Num.dig a i * 2 ^ (n % 32) < 18446744073709551616 := by
  have hd := Num.dig_lt a i
  have hp := pow_small n
  have hm : Num.dig a i * 2 ^ (n % 32) ≤ 4294967295 * 2 ^ (n % 32) := Nat.mul_le_mul_right _ (by omega)
  have e1 : ((Num.dig a i : Int) * 2 ^ (n % 32)) = ((Num.dig a i * 2 ^ (n % 32) : Nat) : Int) := by simp
  have hj := nat_join (n % 32) (Num.dig a i * 2 ^ (n % 32)) c (Nat.mul_mod_left _ _) hc
  have hlt : Num.dig a i * 2 ^ (n % 32) < 18446744073709551616 := by omega
  refine ⟨?_, by omega⟩
  rw [e1]
  generalize Num.dig a i * 2 ^ (n % 32) = x at *
  rw [IntWalk.u64_in _ ⟨by omega, by omega⟩, u64_or_nat _ _ (by omega) hlt, Nat.or_comm, hj, Nat.add_comm]

/-- behind the append of a round -/
theorem shl_step {w wr w1 : World} {a n i c : Nat} {v' : Value} {ds : List Nat} {row : Option Nat}
    (h2 : ∀ d ∈ ds, d < 4294967296) (h3 : ds.length = n / 32 + i) (h4 : c < 2 ^ (n % 32)) (h5 : Num.val ds + c * 4294967296 ^ (n / 32 + i) = Num.upto (Num.dig a) i * 2 ^ n) (h6 : Below w.heap.size w wr)
    (hown : w1.ownsRow w.heap.size 62 1 v' (ds.length + 1) (digitCells ds ++ [.int .u32 (((c + Num.dig a i * 2 ^ (n % 32)) % 4294967296 : Nat) : Int)])) (o : Obj) (hg : (wr.alloc o).grownBy w1 row) (hr : ∀ k, row = some k → w.heap.size ≤ k) :
    ShlInv w w1 a n (i + 1) v' ((c + Num.dig a i * 2 ^ (n % 32)) / 4294967296) := by
  have hd := Num.dig_lt a i
  have hm : Num.dig a i * 2 ^ (n % 32) ≤ 4294967295 * 2 ^ (n % 32) := Nat.mul_le_mul_right _ (by omega)
  generalize hQ : c + Num.dig a i * 2 ^ (n % 32) = Q at *
  refine ⟨ds ++ [Q % 4294967296], ?_, digits_snoc h2 (by omega), by simp; omega, ?_, ?_, (h6.alloc h6.size o).grown hg (Nat.le_trans h6.size (by simp)) hr⟩
  · rw [digitCells_snoc]; simpa using hown
  · rw [Nat.div_lt_iff_lt_mul (by omega)]
    omega
  · rw [Num.val_snoc, h3, show n / 32 + (i + 1) = n / 32 + i + 1 from by omega, Nat.pow_succ, Num.upto, Nat.add_mul, ← h5]
    have e : Num.dig a i * 4294967296 ^ i * 2 ^ n = Num.dig a i * 2 ^ (n % 32) * 4294967296 ^ (n / 32 + i) := by
      rw [two_split n, Nat.pow_add]
      generalize 4294967296 ^ i = x
      generalize 4294967296 ^ (n / 32) = y
      generalize 2 ^ (n % 32) = z
      rw [Nat.mul_assoc, Nat.mul_assoc, Nat.mul_comm x, Nat.mul_assoc]
    rw [e]
    have h1 : Q = Q % 4294967296 + 4294967296 * (Q / 4294967296) := by omega
    have h2 : (c + Num.dig a i * 2 ^ (n % 32)) * 4294967296 ^ (n / 32 + i) = (Q % 4294967296 + 4294967296 * (Q / 4294967296)) * 4294967296 ^ (n / 32 + i) := by rw [hQ, ← h1]
    rw [Nat.add_mul, Nat.add_mul] at h2
    generalize 4294967296 ^ (n / 32 + i) = P at *
    have h3 : Q / 4294967296 * (P * 4294967296) = 4294967296 * (Q / 4294967296) * P := by rw [Nat.mul_comm P, ← Nat.mul_assoc, Nat.mul_comm (Q / 4294967296)]
    rw [h3]
    omega
/-- behind the last append -/
theorem shl_end {w wr w1 : World} {a n c : Nat} {v' : Value} {ds : List Nat} {row : Option Nat}
    (h2 : ∀ d ∈ ds, d < 4294967296) (h3 : ds.length = n / 32 + Num.len a) (h4 : c < 2 ^ (n % 32)) (h5 : Num.val ds + c * 4294967296 ^ (n / 32 + Num.len a) = Num.upto (Num.dig a) (Num.len a) * 2 ^ n) (h6 : Below w.heap.size w wr)
    (hown : w1.ownsRow w.heap.size 62 1 v' (ds.length + 1) (digitCells ds ++ [.int .u32 (c : Int)])) (o : Obj) (hg : (wr.alloc o).grownBy w1 row) (hr : ∀ k, row = some k → w.heap.size ≤ k) :
    Row w1 v' (ds ++ [c]) ∧ (∀ d ∈ ds ++ [c], d < 4294967296) ∧ Num.val (ds ++ [c]) = a * 2 ^ n ∧ Below w.heap.size w w1 := by
  have hp := pow_small n
  refine ⟨row_of_own (base := w.heap.size) (by rw [digitCells_snoc]; simpa using hown), digits_snoc h2 (by omega), ?_, (h6.alloc h6.size o).grown hg (Nat.le_trans h6.size (by simp)) hr⟩
  rw [Num.val_snoc, h3, h5, Num.upto_dig (Nat.le_refl _)]
end Go.Proofs.Ytfkhingkmfapbaa
