/- formatBase10 of the package, by a contract: the digits of a number with zeros in front. Condition: the number has at most as many digits as there is room for, at most 60. -/
import Derived.Test.YtekicbnfabpaeaaDecS
namespace Go.Proofs.Ytekicbnfabpaeaa
open Go.RowKit

/-- the pairs of digits, as the package has them -/
def smalls : List UInt8 := (([48, 48, 48, 49, 48, 50, 48, 51, 48, 52, 48, 53, 48, 54, 48, 55, 48, 56, 48, 57, 49, 48, 49, 49, 49, 50, 49, 51, 49, 52, 49, 53, 49, 54, 49, 55, 49, 56, 49, 57, 50, 48, 50, 49, 50, 50, 50, 51, 50, 52] : List UInt8).append [50, 53, 50, 54, 50, 55, 50, 56, 50, 57, 51, 48, 51, 49, 51, 50, 51, 51, 51, 52, 51, 53, 51, 54, 51, 55, 51, 56, 51, 57, 52, 48, 52, 49, 52, 50, 52, 51, 52, 52, 52, 53, 52, 54, 52, 55, 52, 56, 52, 57]).append (([53, 48, 53, 49, 53, 50, 53, 51, 53, 52, 53, 53, 53, 54, 53, 55, 53, 56, 53, 57, 54, 48, 54, 49, 54, 50, 54, 51, 54, 52, 54, 53, 54, 54, 54, 55, 54, 56, 54, 57, 55, 48, 55, 49, 55, 50, 55, 51, 55, 52] : List UInt8).append [55, 53, 55, 54, 55, 55, 55, 56, 55, 57, 56, 48, 56, 49, 56, 50, 56, 51, 56, 52, 56, 53, 56, 54, 56, 55, 56, 56, 56, 57, 57, 48, 57, 49, 57, 50, 57, 51, 57, 52, 57, 53, 57, 54, 57, 55, 57, 56, 57, 57])
/-- a sign of them -/
def smal (i : Nat) : Nat := 48 + (if i % 2 = 0 then i / 2 / 10 else i / 2 % 10)
theorem smalls_all : (List.range 200).all (fun i => (smalls[i]?).map UInt8.toNat == some (smal i)) = true := by decide +kernel
theorem smalls_len : smalls.length = 200 := by decide +kernel
theorem smalls_at (i : Nat) (h : i < 200) : ((⟨smalls.toArray⟩ : ByteArray)[i]'(by rw [ByteArray.size_mk', List.size_toArray, smalls_len]; exact h)).toNat = smal i := by
  have h1 := List.all_eq_true.1 smalls_all i (by rw [List.mem_range]; exact h)
  have hl : i < smalls.length := by rw [smalls_len]; exact h
  rw [List.getElem?_eq_getElem hl] at h1
  simp at h1
  rw [← h1]
  rfl
theorem small_index (i : Nat) (h : i < 200) (W : World) : (Instr.index 9 (.string ⟨((([48, 48, 48, 49, 48, 50, 48, 51, 48, 52, 48, 53, 48, 54, 48, 55, 48, 56, 48, 57, 49, 48, 49, 49, 49, 50, 49, 51, 49, 52, 49, 53, 49, 54, 49, 55, 49, 56, 49, 57, 50, 48, 50, 49, 50, 50, 50, 51, 50, 52] : List UInt8).append [50, 53, 50, 54, 50, 55, 50, 56, 50, 57, 51, 48, 51, 49, 51, 50, 51, 51, 51, 52, 51, 53, 51, 54, 51, 55, 51, 56, 51, 57, 52, 48, 52, 49, 52, 50, 52, 51, 52, 52, 52, 53, 52, 54, 52, 55, 52, 56, 52, 57]).append (([53, 48, 53, 49, 53, 50, 53, 51, 53, 52, 53, 53, 53, 54, 53, 55, 53, 56, 53, 57, 54, 48, 54, 49, 54, 50, 54, 51, 54, 52, 54, 53, 54, 54, 54, 55, 54, 56, 54, 57, 55, 48, 55, 49, 55, 50, 55, 51, 55, 52] : List UInt8).append [55, 53, 55, 54, 55, 55, 55, 56, 55, 57, 56, 48, 56, 49, 56, 50, 56, 51, 56, 52, 56, 53, 56, 54, 56, 55, 56, 56, 56, 57, 57, 48, 57, 49, 57, 50, 57, 51, 57, 52, 57, 53, 57, 54, 57, 55, 57, 56, 57, 57])).toArray⟩) (.int .u32 (i : Int))).run Try.prog W = .ok (.int .u8 (smal i : Int)) W := by
  show (Instr.index 9 (.string ⟨smalls.toArray⟩) (.int .u32 (i : Int))).run Try.prog W = _
  have hs : (⟨smalls.toArray⟩ : ByteArray).size = 200 := by rw [ByteArray.size_mk', List.size_toArray, smalls_len]
  rw [run_index_string W 9 _ _ _ Try.underlying9, dif_pos ⟨by omega, by rw [hs]; omega⟩]
  have := smalls_at i h
  simp only [Int.toNat_natCast]
  rw [this]

theorem small_lit (i : Nat) (h : i < 200) (x : Int) (hx : x = i) (W : World) : (Instr.index 9 (.string ⟨#[48, 48, 48, 49, 48, 50, 48, 51, 48, 52, 48, 53, 48, 54, 48, 55, 48, 56, 48, 57, 49, 48, 49, 49, 49, 50, 49, 51, 49, 52, 49, 53, 49, 54, 49, 55, 49, 56, 49, 57, 50, 48, 50, 49, 50, 50, 50, 51, 50, 52, 50, 53, 50, 54, 50, 55, 50, 56, 50, 57, 51, 48, 51, 49, 51, 50, 51, 51, 51, 52, 51, 53, 51, 54, 51, 55, 51, 56, 51, 57, 52, 48, 52, 49, 52, 50, 52, 51, 52, 52, 52, 53, 52, 54, 52, 55, 52, 56, 52, 57, 53, 48, 53, 49, 53, 50, 53, 51, 53, 52, 53, 53, 53, 54, 53, 55, 53, 56, 53, 57, 54, 48, 54, 49, 54, 50, 54, 51, 54, 52, 54, 53, 54, 54, 54, 55, 54, 56, 54, 57, 55, 48, 55, 49, 55, 50, 55, 51, 55, 52, 55, 53, 55, 54, 55, 55, 55, 56, 55, 57, 56, 48, 56, 49, 56, 50, 56, 51, 56, 52, 56, 53, 56, 54, 56, 55, 56, 56, 56, 57, 57, 48, 57, 49, 57, 50, 57, 51, 57, 52, 57, 53, 57, 54, 57, 55, 57, 56, 57, 57]⟩) (.int .u32 x)).run Try.prog W = .ok (.int .u8 (smal i : Int)) W := by
  subst hx
  exact small_index i h W

/-- the last n digits of a number, as signs -/
def fmtL : Nat → Nat → List Nat
  | 0, _ => []
  | n + 1, u => fmtL n (u / 10) ++ [48 + u % 10]
theorem fmtL_len (n u : Nat) : (fmtL n u).length = n := by
  induction n generalizing u with
  | zero => rfl
  | succ n ih => simp [fmtL, ih]
theorem fmtL_nth (n u i : Nat) (h : i < n) : nth (fmtL n u) i = 48 + u / 10 ^ (n - 1 - i) % 10 := by
  induction n generalizing u with
  | zero => omega
  | succ n ih =>
    rw [fmtL]
    by_cases e : i = n
    · subst e
      have : nth (fmtL i (u / 10) ++ [48 + u % 10]) i = 48 + u % 10 := by
        simp [nth, List.getD_eq_getElem?_getD, fmtL_len]
      rw [this, show i + 1 - 1 - i = 0 from by omega, Nat.pow_zero, Nat.div_one]
    · have : nth (fmtL n (u / 10) ++ [48 + u % 10]) i = nth (fmtL n (u / 10)) i := by
        simp [nth, List.getD_eq_getElem?_getD, List.getElem?_append_left (show i < (fmtL n (u / 10)).length by rw [fmtL_len]; omega)]
      rw [this, ih _ (by omega), Nat.div_div_eq_div_mul, show n + 1 - 1 - i = (n - 1 - i) + 1 from by omega, Nat.pow_succ, Nat.mul_comm 10]
theorem fmtL_zero (n : Nat) : fmtL n 0 = List.replicate n 48 := by
  induction n with
  | zero => rfl
  | succ n ih => simp [fmtL, ih, List.replicate_succ']
theorem fmtL_dec {n u : Nat} (h : (decL u).length ≤ n) : fmtL n u = List.replicate (n - (decL u).length) 48 ++ decL u := by
  induction n generalizing u with
  | zero => have := decL_len_pos u; omega
  | succ n ih =>
    by_cases h10 : u < 10
    · rw [fmtL, decL_small h10, Nat.div_eq_of_lt h10, fmtL_zero, Nat.mod_eq_of_lt h10]
      simp
    · rw [fmtL, decL_big h10]
      have hl : (decL (u / 10)).length ≤ n := by rw [decL_big h10] at h; simp at h; omega
      rw [ih hl]
      simp
theorem list_of_nth {a b : List Nat} (hl : a.length = b.length) (h : ∀ i, i < b.length → nth a i = nth b i) : a = b := by
  apply List.ext_getElem hl
  intro i h1 h2
  have := h i h2
  simpa [nth, List.getD_eq_getElem?_getD, h1, h2] using this

/-- what is written so far: the signs from place k on; m is what is left of the number -/
def FmtInv (w wr : World) (g n u k m : Nat) : Prop :=
  ∃ L : List Nat, L.length = n ∧ Bytes L ∧ Box wr 5 g (byteCells L) ∧ k ≤ n ∧ m = u / 10 ^ (n - k) ∧ (∀ i, k ≤ i → i < n → nth L i = 48 + u / 10 ^ (n - 1 - i) % 10) ∧ Only g w wr
/-- one more sign is written -/
theorem fmt_put {w wr : World} {g n u k m : Nat} (h : FmtInv w wr g n u k m) (hk : 0 < k) : FmtInv w (wr.setCell ⟨g, k - 1, none⟩ (.int .u8 ((48 + m % 10 : Nat) : Int))) g n u (k - 1) (m / 10) := by
  obtain ⟨L, h1, h2, h3, h4, h5, h6, h7⟩ := h
  refine ⟨L.set (k - 1) (48 + m % 10), by rw [List.length_set, h1], bytes_set h2 (by omega), byteBox_set h3 _ _, by omega, ?_, ?_, h7.setCell _ _⟩
  · rw [h5, Nat.div_div_eq_div_mul, show n - (k - 1) = (n - k) + 1 from by omega, Nat.pow_succ]
  · intro i hi hin
    rw [nth_set _ _ _ _ (by omega)]
    by_cases e : k - 1 = i
    · rw [if_pos e, h5, show n - 1 - i = n - k from by omega]
    · rw [if_neg e]; exact h6 i (by omega) hin
theorem fmt_cell {w wr : World} {g n u k m : Nat} (h : FmtInv w wr g n u k m) (i : Nat) (hi : i < n) : (∃ v, wr.cell? ⟨g, i, none⟩ = some (.int .u8 v)) ∧ wr.frozen? ⟨g, i, none⟩ = false := by
  obtain ⟨L, h1, h2, h3, h4, h5, h6, h7⟩ := h
  exact ⟨⟨_, byteBox_at h3 (by omega)⟩, h3.frozen i⟩
theorem fmt_drew {w wr : World} {g n u k m : Nat} (h : FmtInv w wr g n u k m) : FmtInv w wr.drew g n u k m := by
  obtain ⟨L, h1, h2, h3, h4, h5, h6, h7⟩ := h
  exact ⟨L, h1, h2, h3, h4, h5, h6, h7.drew⟩
theorem fmt_end {w wr : World} {g n u m : Nat} (h : FmtInv w wr g n u 0 m) : Box wr 5 g (byteCells (fmtL n u)) ∧ Only g w wr := by
  obtain ⟨L, h1, h2, h3, h4, h5, h6, h7⟩ := h
  have : L = fmtL n u := list_of_nth (by rw [h1, fmtL_len]) (fun i hi => by rw [fmtL_len] at hi; rw [h6 i (Nat.zero_le _) hi, fmtL_nth n u i hi])
  rw [← this]
  exact ⟨h3, h7⟩
/-- two signs of a pair: the low one, then the high one -/
theorem fmt_pair {w wr : World} {g n u k m p : Nat} (h : FmtInv w wr g n u k m) (hk : 2 ≤ k) (hp : p = m % 100) :
    FmtInv w ((wr.setCell ⟨g, k - 1, none⟩ (.int .u8 (smal (p * 2 + 1) : Int))).setCell ⟨g, k - 2, none⟩ (.int .u8 (smal (p * 2) : Int))) g n u (k - 2) (m / 100) := by
  have e1 : smal (p * 2 + 1) = 48 + m % 10 := by unfold smal; rw [if_neg (by omega)]; omega
  have e2 : smal (p * 2) = 48 + m / 10 % 10 := by unfold smal; rw [if_pos (by omega)]; omega
  rw [e1, e2]
  have h2 := fmt_put (fmt_put h (by omega)) (by omega)
  rw [show k - 1 - 1 = k - 2 from by omega, Nat.div_div_eq_div_mul] at h2
  exact h2
/-- the same, the other order -/
theorem fmt_pair' {w wr : World} {g n u k m p : Nat} (h : FmtInv w wr g n u k m) (hk : 2 ≤ k) (hp : p = m % 100) :
    FmtInv w ((wr.setCell ⟨g, k - 2, none⟩ (.int .u8 (smal (p * 2) : Int))).setCell ⟨g, k - 1, none⟩ (.int .u8 (smal (p * 2 + 1) : Int))) g n u (k - 2) (m / 100) := by
  obtain ⟨L, h1, h2, h3, h4, h5, h6, h7⟩ := h
  have e1 : smal (p * 2 + 1) = 48 + m % 10 := by unfold smal; rw [if_neg (by omega)]; omega
  have e2 : smal (p * 2) = 48 + m / 10 % 10 := by unfold smal; rw [if_pos (by omega)]; omega
  rw [e1, e2]
  refine ⟨(L.set (k - 2) (48 + m / 10 % 10)).set (k - 1) (48 + m % 10), by rw [List.length_set, List.length_set, h1], bytes_set (bytes_set h2 (by omega)) (by omega), byteBox_set (byteBox_set h3 _ _) _ _, by omega, ?_, ?_, (h7.setCell _ _).setCell _ _⟩
  · rw [h5, Nat.div_div_eq_div_mul, show n - (k - 2) = (n - k) + 2 from by omega, Nat.pow_add]
  · intro i hi hin
    rw [nth_set _ _ _ _ (by rw [List.length_set]; omega), nth_set _ _ _ _ (by omega)]
    by_cases e : k - 1 = i
    · rw [if_pos e, h5, show n - 1 - i = n - k from by omega]
    · rw [if_neg e]
      by_cases e' : k - 2 = i
      · rw [if_pos e', h5, show n - 1 - i = (n - k) + 1 from by omega, Nat.pow_succ, ← Nat.div_div_eq_div_mul]
      · rw [if_neg e']; exact h6 i (by omega) hin
/-- a pair at named places -/
theorem fmt_two {w wr : World} {g n u k m : Nat} (i j p : Nat) (h : FmtInv w wr g n u k m) (hi : i + 1 = k) (hj : j + 2 = k) (hp : p = m % 100) :
    FmtInv w ((wr.setCell ⟨g, i, none⟩ (.int .u8 (smal (p * 2 + 1) : Int))).setCell ⟨g, j, none⟩ (.int .u8 (smal (p * 2) : Int))).drew g n u j (m / 100) := by
  have := fmt_drew (fmt_pair h (by omega) hp)
  rw [show k - 1 = i from by omega, show k - 2 = j from by omega] at this
  exact this
end Go.Proofs.Ytekicbnfabpaeaa
