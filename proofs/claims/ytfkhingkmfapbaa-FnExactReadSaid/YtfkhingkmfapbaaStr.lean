/- Strings as lists of numbers below 256 (bs), their parts, and the decimal digits of numbers. No function of the program is walked here. -/
import Derived.Test.YtfkhingkmfapbaaNatP
import Derived.Laws.BytesArg
import Derived.Lib.Strings
namespace Go.Proofs.Ytfkhingkmfapbaa
open Go.RowKit

def bs (l : List Nat) : ByteArray := ⟨(l.map UInt8.ofNat).toArray⟩
/-- all of them are bytes -/
def Bytes (l : List Nat) : Prop := ∀ x ∈ l, x < 256
theorem bs_size (l : List Nat) : (bs l).size = l.length := by simp [bs, ByteArray.size]
theorem bs_data (l : List Nat) : (bs l).data.toList = l.map UInt8.ofNat := by simp [bs]
theorem bs_toList (l : List Nat) : (bs l).toList = l.map UInt8.ofNat := by rw [ByteArray.toList_eq, bs_data]
/-- a byte of a text: a rule for the walk -/
theorem get_bs (l : List Nat) (h : Bytes l) : ∀ (n : Nat) (hn : n < (bs l).size), (((bs l)[n]'hn).toNat : Int) = (nth l n : Int) := by
  intro i hi'
  have hi : i < l.length := by rw [bs_size] at hi'; exact hi'
  have hx := h l[i] (List.getElem_mem hi)
  have e : ((bs l)[i]'hi') = UInt8.ofNat l[i] := by
    show (bs l).data[i]'_ = _
    simp [bs]
  rw [e]
  simp [nth, List.getD_eq_getElem?_getD, hi]
  omega
theorem bs_of (a : ByteArray) : ∃ l, a = bs l ∧ Bytes l ∧ l.length = a.size := by
  refine ⟨a.data.toList.map UInt8.toNat, ?_, ?_, by rw [List.length_map, Array.length_toList]; rfl⟩
  · rcases a with ⟨⟨l⟩⟩
    unfold bs
    congr 1
    simp only [List.map_map]
    congr 1
    have : (UInt8.ofNat ∘ UInt8.toNat) = id := by funext x; simp
    rw [this, List.map_id]
  · intro x hx
    simp only [List.mem_map] at hx
    obtain ⟨c, _, rfl⟩ := hx
    exact c.toNat_lt
theorem bs_extract (l : List Nat) (i j : Nat) : (bs l).extract i j = bs ((l.drop i).take (j - i)) := by
  rw [Lib.extract_eq, bs_data]
  unfold bs
  rw [List.map_take, List.map_drop]
theorem bs_drop (l : List Nat) (k : Nat) : (bs l).extract k (bs l).size = bs (l.drop k) := by
  rw [bs_extract, bs_size, List.take_of_length_le (by simp)]
theorem bs_drop' (l : List Nat) (k : Nat) : (bs l).extract k l.length = bs (l.drop k) := by
  rw [bs_extract, List.take_of_length_le (by simp)]
theorem bs_take (l : List Nat) (k : Nat) : (bs l).extract 0 k = bs (l.take k) := by rw [bs_extract]; simp
theorem bs_append (a b : List Nat) : bs a ++ bs b = bs (a ++ b) := by
  unfold bs
  rw [ByteArray.mk_append_mk, List.map_append]
theorem bs_nums (l : List Nat) : strOfNums (l.map fun (n : Nat) => (n : Int)) = bs l := by
  unfold strOfNums bs
  congr 1
  rw [List.map_map]
  rfl
theorem map_inj : ∀ {a b : List Nat}, Bytes a → Bytes b → a.map UInt8.ofNat = b.map UInt8.ofNat → a = b
  | [], [], _, _, _ => rfl
  | [], _ :: _, _, _, h => by simp at h
  | _ :: _, [], _, _, h => by simp at h
  | x :: a, y :: b, ha, hb, h => by
    simp only [List.map_cons, List.cons.injEq] at h
    have hx := ha x (by simp)
    have hy := hb y (by simp)
    have e : x = y := by
      have := congrArg UInt8.toNat h.1
      simp at this
      omega
    rw [e, map_inj (fun z hz => ha z (by simp [hz])) (fun z hz => hb z (by simp [hz])) h.2]
/-- the test of two texts -/
theorem bs_eq {a b : List Nat} (h : a = b) : ((bs a).toList == (bs b).toList) = true := by rw [h]; simp
theorem bs_ne {a b : List Nat} (ha : Bytes a) (hb : Bytes b) (h : a ≠ b) : ((bs a).toList == (bs b).toList) = false := by
  rw [bs_toList, bs_toList]
  simp only [beq_eq_false_iff_ne, ne_eq]
  exact fun e => h (map_inj ha hb e)
theorem bytes_append {a b : List Nat} (ha : Bytes a) (hb : Bytes b) : Bytes (a ++ b) := fun x hx => by
  rcases List.mem_append.1 hx with h | h
  · exact ha x h
  · exact hb x h
theorem bytes_take {a : List Nat} (h : Bytes a) (k : Nat) : Bytes (a.take k) := fun x hx => h x (List.mem_of_mem_take hx)
theorem bytes_drop {a : List Nat} (h : Bytes a) (k : Nat) : Bytes (a.drop k) := fun x hx => h x (List.mem_of_mem_drop hx)
theorem bytes_nil : Bytes [] := fun x hx => by simp at hx
theorem nth_byte {a : List Nat} (h : Bytes a) (i : Nat) : nth a i < 256 := by
  unfold nth
  by_cases hi : i < a.length
  · simp [List.getD_eq_getElem?_getD, hi]
    exact h _ (List.getElem_mem hi)
  · simp [List.getD_eq_getElem?_getD, List.getElem?_eq_none (show a.length ≤ i by omega)]

/-! ### decimal digits -/
/-- the decimal digits of a number, as signs -/
def decL (n : Nat) : List Nat := if n < 10 then [48 + n] else decL (n / 10) ++ [48 + n % 10]
termination_by n
decreasing_by omega
theorem decL_small {n : Nat} (h : n < 10) : decL n = [48 + n] := by rw [decL, if_pos h]
theorem decL_big {n : Nat} (h : ¬ n < 10) : decL n = decL (n / 10) ++ [48 + n % 10] := by rw [decL, if_neg h]
/-- digits alone -/
def Digs (l : List Nat) : Prop := ∀ x ∈ l, 48 ≤ x ∧ x ≤ 57
theorem digs_bytes {l : List Nat} (h : Digs l) : Bytes l := fun x hx => by have := h x hx; omega
theorem digs_append {a b : List Nat} (ha : Digs a) (hb : Digs b) : Digs (a ++ b) := fun x hx => by
  rcases List.mem_append.1 hx with h | h
  · exact ha x h
  · exact hb x h
theorem decL_digs (n : Nat) : Digs (decL n) := by
  induction n using Nat.strongRecOn with
  | _ n ih =>
    by_cases h : n < 10
    · rw [decL_small h]; intro x hx; simp at hx; omega
    · rw [decL_big h]
      exact digs_append (ih _ (by omega)) (fun x hx => by simp at hx; omega)
theorem decL_len_pos (n : Nat) : 0 < (decL n).length := by
  by_cases h : n < 10
  · rw [decL_small h]; simp
  · rw [decL_big h]; simp
theorem decL_len_le {n k : Nat} (h : n < 10 ^ (k + 1)) : (decL n).length ≤ k + 1 := by
  induction k generalizing n with
  | zero => rw [decL_small (by simpa using h)]; simp
  | succ k ih =>
    by_cases h0 : n < 10
    · rw [decL_small h0]; simp
    · rw [decL_big h0]
      have := ih (n := n / 10) (by rw [Nat.div_lt_iff_lt_mul (by omega)]; rw [Nat.pow_succ] at h; exact h)
      simp; omega
theorem decL_len_ge {n k : Nat} (h : 10 ^ k ≤ n) : k + 1 ≤ (decL n).length := by
  induction k generalizing n with
  | zero => exact decL_len_pos n
  | succ k ih =>
    have hp : 0 < 10 ^ k := Nat.pow_pos (by omega)
    have h10 : ¬ n < 10 := by rw [Nat.pow_succ] at h; omega
    rw [decL_big h10]
    have := ih (n := n / 10) (by rw [Nat.le_div_iff_mul_le (by omega)]; rw [Nat.pow_succ] at h; exact h)
    simp; omega
/-- the number of digits, the highest first -/
def valD (l : List Nat) : Nat := l.foldl (fun a c => 10 * a + (c - 48)) 0
theorem valD_snoc (l : List Nat) (c : Nat) : valD (l ++ [c]) = 10 * valD l + (c - 48) := by simp [valD]
theorem valD_dec (n : Nat) : valD (decL n) = n := by
  induction n using Nat.strongRecOn with
  | _ n ih =>
    by_cases h : n < 10
    · rw [decL_small h]; simp [valD]
    · rw [decL_big h, valD_snoc, ih _ (by omega)]; omega
end Go.Proofs.Ytfkhingkmfapbaa
