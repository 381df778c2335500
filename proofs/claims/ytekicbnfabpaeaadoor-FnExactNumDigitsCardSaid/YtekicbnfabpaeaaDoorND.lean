/- The walk of FnExactNumDigits: the law returns true, where the table of powers of 10 holds them. -/
import Derived.Test.YtekicbnfabpaeaaDoorProg
import Derived.WalkKit
import Derived.WalkLawsBesides
import Derived.Deep.QuietTactic
import Derived.BigQuiet
import Derived.Handy
import Derived.Lib.Hide
import Derived.Laws.BitsAllLaws
import Derived.Laws.BytesArg
import Derived.Lib.Strings
import Derived.WalkSpells
import Derived.OpenShut
import Derived.Test.YtekicbnfabpaeaaDoorShelf
import Derived.Test.YtekicbnfabpaeaaDoorRows
import Derived.Lib.LaidTab
import Derived.LaidMore
import Derived.Stop.Joined
namespace Go.Proofs.YtekicbnfabpaeaaDoor
open Go.RowKit

def nth (ds : List Nat) (i : Nat) : Nat := ds.getD i 0
theorem below_new (w : World) (o : Obj) : Below w.heap.size w (w.alloc o) := (Below.refl _ _).alloc (Nat.le_refl _) o
theorem ret_int {k : IntKind} {a b : Int} (h : a = b) : Ending.returned (.int k a) = .returned (.int k b) := by rw [h]
def bs (l : List Nat) : ByteArray := ⟨(l.map UInt8.ofNat).toArray⟩
/-- all of them are bytes -/
def Bytes (l : List Nat) : Prop := ∀ x ∈ l, x < 256
theorem bs_size (l : List Nat) : (bs l).size = l.length := by simp [bs, ByteArray.size]
theorem bs_data (l : List Nat) : (bs l).data.toList = l.map UInt8.ofNat := by simp [bs]
theorem bs_toList (l : List Nat) : (bs l).toList = l.map UInt8.ofNat := by rw [ByteArray.toList_eq, bs_data]
/-- a byte of a text: a rule for the walk -/
theorem get_bs (l : List Nat) (h : Bytes l) : ∀ (n : Nat) (hn : n < (bs l).size), (((bs l)[n]'hn).toNat : Int) = (nth l n : Int) := by
  intro i hi'
  have hi : i < l.length := by rw [bs_size] at hi'; exact hi'
  have hx := h l[i] (List.getElem_mem hi)
  have e : ((bs l)[i]'hi') = UInt8.ofNat l[i] := by
    show (bs l).data[i]'_ = _
    simp [bs]
  rw [e]
  simp [nth, List.getD_eq_getElem?_getD, hi]
  omega
theorem bs_of (a : ByteArray) : ∃ l, a = bs l ∧ Bytes l ∧ l.length = a.size := by
  refine ⟨a.data.toList.map UInt8.toNat, ?_, ?_, by rw [List.length_map, Array.length_toList]; rfl⟩
  · rcases a with ⟨⟨l⟩⟩
    unfold bs
    congr 1
    simp only [List.map_map]
    congr 1
    have : (UInt8.ofNat ∘ UInt8.toNat) = id := by funext x; simp
    rw [this, List.map_id]
  · intro x hx
    simp only [List.mem_map] at hx
    obtain ⟨c, _, rfl⟩ := hx
    exact c.toNat_lt
theorem bs_extract (l : List Nat) (i j : Nat) : (bs l).extract i j = bs ((l.drop i).take (j - i)) := by
  rw [Lib.extract_eq, bs_data]
  unfold bs
  rw [List.map_take, List.map_drop]
theorem bs_drop (l : List Nat) (k : Nat) : (bs l).extract k (bs l).size = bs (l.drop k) := by
  rw [bs_extract, bs_size, List.take_of_length_le (by simp)]
theorem bs_drop' (l : List Nat) (k : Nat) : (bs l).extract k l.length = bs (l.drop k) := by
  rw [bs_extract, List.take_of_length_le (by simp)]
theorem bs_take (l : List Nat) (k : Nat) : (bs l).extract 0 k = bs (l.take k) := by rw [bs_extract]; simp
theorem bs_append (a b : List Nat) : bs a ++ bs b = bs (a ++ b) := by
  unfold bs
  rw [ByteArray.mk_append_mk, List.map_append]
theorem bs_nums (l : List Nat) : strOfNums (l.map fun (n : Nat) => (n : Int)) = bs l := by
  unfold strOfNums bs
  congr 1
  rw [List.map_map]
  rfl
theorem map_inj : ∀ {a b : List Nat}, Bytes a → Bytes b → a.map UInt8.ofNat = b.map UInt8.ofNat → a = b
  | [], [], _, _, _ => rfl
  | [], _ :: _, _, _, h => by simp at h
  | _ :: _, [], _, _, h => by simp at h
  | x :: a, y :: b, ha, hb, h => by
    simp only [List.map_cons, List.cons.injEq] at h
    have hx := ha x (by simp)
    have hy := hb y (by simp)
    have e : x = y := by
      have := congrArg UInt8.toNat h.1
      simp at this
      omega
    rw [e, map_inj (fun z hz => ha z (by simp [hz])) (fun z hz => hb z (by simp [hz])) h.2]
/-- the test of two texts -/
theorem bs_eq {a b : List Nat} (h : a = b) : ((bs a).toList == (bs b).toList) = true := by rw [h]; simp
theorem bs_ne {a b : List Nat} (ha : Bytes a) (hb : Bytes b) (h : a ≠ b) : ((bs a).toList == (bs b).toList) = false := by
  rw [bs_toList, bs_toList]
  simp only [beq_eq_false_iff_ne, ne_eq]
  exact fun e => h (map_inj ha hb e)
theorem bytes_append {a b : List Nat} (ha : Bytes a) (hb : Bytes b) : Bytes (a ++ b) := fun x hx => by
  rcases List.mem_append.1 hx with h | h
  · exact ha x h
  · exact hb x h
theorem bytes_take {a : List Nat} (h : Bytes a) (k : Nat) : Bytes (a.take k) := fun x hx => h x (List.mem_of_mem_take hx)
theorem bytes_drop {a : List Nat} (h : Bytes a) (k : Nat) : Bytes (a.drop k) := fun x hx => h x (List.mem_of_mem_drop hx)
theorem bytes_nil : Bytes [] := fun x hx => by simp at hx
theorem nth_byte {a : List Nat} (h : Bytes a) (i : Nat) : nth a i < 256 := by
  unfold nth
  by_cases hi : i < a.length
  · simp [List.getD_eq_getElem?_getD, hi]
    exact h _ (List.getElem_mem hi)
  · simp [List.getD_eq_getElem?_getD, List.getElem?_eq_none (show a.length ≤ i by omega)]

/-! ### decimal digits -/
/-- the decimal digits of a number, as signs -/
def decL (n : Nat) : List Nat := if n < 10 then [48 + n] else decL (n / 10) ++ [48 + n % 10]
termination_by n
decreasing_by omega
theorem decL_small {n : Nat} (h : n < 10) : decL n = [48 + n] := by rw [decL, if_pos h]
theorem decL_big {n : Nat} (h : ¬ n < 10) : decL n = decL (n / 10) ++ [48 + n % 10] := by rw [decL, if_neg h]
/-- digits alone -/
def Digs (l : List Nat) : Prop := ∀ x ∈ l, 48 ≤ x ∧ x ≤ 57
theorem digs_bytes {l : List Nat} (h : Digs l) : Bytes l := fun x hx => by have := h x hx; omega
theorem digs_append {a b : List Nat} (ha : Digs a) (hb : Digs b) : Digs (a ++ b) := fun x hx => by
  rcases List.mem_append.1 hx with h | h
  · exact ha x h
  · exact hb x h
theorem decL_digs (n : Nat) : Digs (decL n) := by
  induction n using Nat.strongRecOn with
  | _ n ih =>
    by_cases h : n < 10
    · rw [decL_small h]; intro x hx; simp at hx; omega
    · rw [decL_big h]
      exact digs_append (ih _ (by omega)) (fun x hx => by simp at hx; omega)
theorem decL_len_pos (n : Nat) : 0 < (decL n).length := by
  by_cases h : n < 10
  · rw [decL_small h]; simp
  · rw [decL_big h]; simp
theorem decL_len_le {n k : Nat} (h : n < 10 ^ (k + 1)) : (decL n).length ≤ k + 1 := by
  induction k generalizing n with
  | zero => rw [decL_small (by simpa using h)]; simp
  | succ k ih =>
    by_cases h0 : n < 10
    · rw [decL_small h0]; simp
    · rw [decL_big h0]
      have := ih (n := n / 10) (by rw [Nat.div_lt_iff_lt_mul (by omega)]; rw [Nat.pow_succ] at h; exact h)
      simp; omega
theorem decL_len_ge {n k : Nat} (h : 10 ^ k ≤ n) : k + 1 ≤ (decL n).length := by
  induction k generalizing n with
  | zero => exact decL_len_pos n
  | succ k ih =>
    have hp : 0 < 10 ^ k := Nat.pow_pos (by omega)
    have h10 : ¬ n < 10 := by rw [Nat.pow_succ] at h; omega
    rw [decL_big h10]
    have := ih (n := n / 10) (by rw [Nat.le_div_iff_mul_le (by omega)]; rw [Nat.pow_succ] at h; exact h)
    simp; omega
/-- the number of digits, the highest first -/
def valD (l : List Nat) : Nat := l.foldl (fun a c => 10 * a + (c - 48)) 0
theorem valD_snoc (l : List Nat) (c : Nat) : valD (l ++ [c]) = 10 * valD l + (c - 48) := by simp [valD]
theorem valD_dec (n : Nat) : valD (decL n) = n := by
  induction n using Nat.strongRecOn with
  | _ n ih =>
    by_cases h : n < 10
    · rw [decL_small h]; simp [valD]
    · rw [decL_big h, valD_snoc, ih _ (by omega)]; omega
/-- a call hands back a text; nothing that was there has turned -/
def GivesText (l : List Nat) (w : World) (e : Ending) (w' : World) : Prop := e = .returned (.string (bs l)) ∧ Below w.heap.size w w'
theorem ret_text {a b : ByteArray} (h : a = b) : Ending.returned (.string a) = .returned (.string b) := by rw [h]

theorem bytes_one (w : World) (c : Int) (k : Nat) (h : c = k) :
    (convert 26 9 (.slice (some ⟨w.heap.size, 0, none⟩) 1 1)).run Tryd.prog (w.alloc (.cells #[.int .u8 c] 5)) = .ok (.string (bs [k])) (w.alloc (.cells #[.int .u8 c] 5)) := by
  have := run_convert_bytes_arg (P := Tryd.prog) (w.alloc (.cells #[.int .u8 c] 5)) 26 5 Tryd.underlying26 Tryd.underlying5 w.heap.size 0 1 1 [c] rfl
    (by intro i hi; obtain rfl : i = 0 := by omega
        simp [go_sem]) 9 Tryd.underlying9
  rw [this]
  have e := bs_nums [k]
  subst h
  simp only [List.map_cons, List.map_nil] at e
  rw [e]

set_option maxRecDepth 100000 in
theorem dec_any (k : Nat) : ∀ (a : Int) (w : World), 0 ≤ a → a ≤ 18446744073709551615 → a.toNat ≤ k → Calls Tryd.prog 5 #[.int .u64 a] w (GivesText (decL a.toNat) w) := by
  induction k with
  | zero =>
    intro a w h0 h1 hk
    obtain rfl : a = 0 := by omega
    have hcv := bytes_one w 48 48 rfl
    have HD := Lib.hid (decL_small (n := (0 : Int).toNat) (by omega))
    go_enter Tryd.func5, Tryd.ntmps5
    go_wp2_with fail
    go_ret
    exact ⟨ret_text (by rw [HD.out]; rfl), below_new w _⟩
  | succ k ih =>
    intro a w h0 h1 hk
    obtain ⟨n, rfl⟩ := Int.eq_ofNat_of_zero_le h0
    rw [Int.toNat_natCast] at hk ⊢
    have hcv := bytes_one w (48 + (n : Int) % 10) (48 + n % 10) (by omega)
    have IH := Lib.hid ih
    clear ih
    by_cases h : n < 10
    · have HD := Lib.hid (decL_small h)
      have HM := Lib.hid (show n % 10 = n by omega)
      go_enter Tryd.func5, Tryd.ntmps5
      go_wp2_with fail
      go_ret
      exact ⟨ret_text (by rw [HD.out, HM.out]), below_new w _⟩
    · have HD := Lib.hid (decL_big h)
      have hs1 : (bs (decL (n / 10))).size ≤ 30 := by rw [bs_size]; have := decL_len_le (n := n / 10) (k := 19) (by omega); omega
      have hs2 : (bs [48 + n % 10]).size ≤ 30 := by rw [bs_size]; simp
      go_enter Tryd.func5, Tryd.ntmps5
      go_wp2_with fail
      refine (IH.out _ _ (by omega) (by omega) (by omega)).mono ?_
      rintro e w1 ⟨rfl, hb⟩
      have HB := Lib.hid ((below_new w _).trans (hb.mono (by simp)))
      clear hb
      rw [show ((n : Int) / 10).toNat = n / 10 from by omega]
      go_wp2_with fail
      go_ret
      exact ⟨ret_text (by rw [HD.out, bs_append]), HB.out⟩
theorem dec_out (a : Int) (w : World) (h0 : 0 ≤ a) (h1 : a ≤ 18446744073709551615) : Calls Tryd.prog 5 #[.int .u64 a] w (GivesText (decL a.toNat) w) := dec_any _ a w h0 h1 (Nat.le_refl _)


/-! ### the number of digits, by the binary length -/
theorem bitLenAux_spec (f : Nat) : ∀ x, x ≠ 0 → x < 2 ^ f → 1 ≤ Lib.bitLenAux f x ∧ Lib.bitLenAux f x ≤ f ∧ 2 ^ (Lib.bitLenAux f x - 1) ≤ x ∧ x < 2 ^ Lib.bitLenAux f x := by
  induction f with
  | zero => intro x h0 h; simp at h; exact absurd h h0
  | succ f ih =>
    intro x h0 h
    rw [Lib.bitLenAux, if_neg h0]
    by_cases h1 : x / 2 = 0
    · have : Lib.bitLenAux f (x / 2) = 0 := by rw [h1]; cases f <;> simp [Lib.bitLenAux]
      rw [this]
      have : x = 1 := by omega
      subst this
      simp
    · obtain ⟨a, b, c, d⟩ := ih (x / 2) h1 (by rw [Nat.pow_succ] at h; omega)
      generalize Lib.bitLenAux f (x / 2) = k at *
      refine ⟨by omega, by omega, ?_, ?_⟩
      · have e : 2 ^ (1 + k - 1) = 2 ^ (k - 1) * 2 := by rw [← Nat.pow_succ]; congr 1; omega
        rw [e]; omega
      · have e : 2 ^ (1 + k) = 2 ^ k * 2 := by rw [← Nat.pow_succ]; congr 1; omega
        rw [e]; omega
def ndOf (L : Nat) : Nat := L * 78913 / 262144
theorem nd_table : ∀ L : Fin 65, L.val = 0 ∨ ((ndOf L.val = 0 ∨ 10 ^ (ndOf L.val - 1) ≤ 2 ^ (L.val - 1)) ∧ 2 ^ L.val ≤ 10 ^ (ndOf L.val + 1) ∧ ndOf L.val ≤ 19) := by decide +kernel
/-- how many digits -/
def ndRes (d : Nat) : Nat := ndOf (Lib.bitLen d) + if 10 ^ ndOf (Lib.bitLen d) ≤ d then 1 else 0
theorem bitLen_spec {d : Nat} (h0 : d ≠ 0) (h : d < 18446744073709551616) : 1 ≤ Lib.bitLen d ∧ Lib.bitLen d ≤ 64 ∧ 2 ^ (Lib.bitLen d - 1) ≤ d ∧ d < 2 ^ Lib.bitLen d := bitLenAux_spec 64 d h0 h
theorem nd_le {d : Nat} (h0 : d ≠ 0) (h : d < 18446744073709551616) : ndOf (Lib.bitLen d) ≤ 19 := by
  obtain ⟨a, b, _, _⟩ := bitLen_spec h0 h
  have := nd_table ⟨Lib.bitLen d, by omega⟩
  simp only at this
  rcases this with h | ⟨_, _, h⟩
  · omega
  · exact h
theorem nd_len {d : Nat} (h0 : d ≠ 0) (h : d < 18446744073709551616) : ndRes d = (decL d).length := by
  obtain ⟨a, b, c, e⟩ := bitLen_spec h0 h
  have ht := nd_table ⟨Lib.bitLen d, by omega⟩
  simp only at ht
  have ht := ht.resolve_left (by omega)
  obtain ⟨h1, h2, _⟩ := ht
  unfold ndRes
  generalize ndOf (Lib.bitLen d) = n at *
  by_cases hge : 10 ^ n ≤ d
  · rw [if_pos hge]
    have l1 := decL_len_ge hge
    have l2 := decL_len_le (n := d) (k := n) (Nat.lt_of_lt_of_le e h2)
    omega
  · rw [if_neg hge]
    rcases h1 with h1 | h1
    · subst h1; simp at hge; omega
    · rcases Nat.eq_zero_or_pos n with rfl | hn
      · simp at hge; omega
      · have l1 := decL_len_ge (Nat.le_trans h1 c)
        have l2 := decL_len_le (n := d) (k := n - 1) (by rw [show n - 1 + 1 = n by omega]; omega)
        omega

theorem log10_any (L : Nat) (w : World) (h : L ≤ 64) : Calls Tryd.prog 8 #[.int .i64 L] w fun e w' => e = .returned (.int .i64 (ndOf L : Int)) ∧ w = w' := by
  have HU : Hid (ndOf L = L * 78913 / 262144) := rfl
  go_enter Tryd.func8, Tryd.ntmps8
  go_wp2_with fail
  go_ret
  exact ⟨ret_int (by rw [HU.out]; omega), rfl⟩
theorem bool2_true (w : World) : Calls Tryd.prog 10 #[.bool true] w fun e w' => e = .returned (.int .i64 1) ∧ w = w' := by
  go_enter Tryd.func10, Tryd.ntmps10
  go_wp2_with fail
  go_ret
  exact ⟨rfl, rfl⟩
theorem bool2_false (w : World) : Calls Tryd.prog 10 #[.bool false] w fun e w' => e = .returned (.int .i64 0) ∧ w = w' := by
  go_enter Tryd.func10, Tryd.ntmps10
  go_wp2_with fail
  go_ret
  exact ⟨rfl, rfl⟩
set_option maxHeartbeats 1000000 in
theorem numDigits_any (d : Nat) (w : World) (h0 : d ≠ 0) (h1 : d < 18446744073709551616) (hT : ∀ i, i ≤ 19 → w.cell? ⟨0, i, none⟩ = some (.int .u64 ((10 ^ i : Nat) : Int))) :
    Calls Tryd.prog 7 #[.int .u64 d] w fun e w' => e = .returned (.int .i64 (ndRes d : Int)) ∧ w = w' := by
  obtain ⟨b1, b2, _, _⟩ := bitLen_spec h0 h1
  have hn := nd_le h0 h1
  have hc := hT _ hn
  have HR : Hid (ndRes d = ndOf (Lib.bitLen d) + if 10 ^ ndOf (Lib.bitLen d) ≤ d then 1 else 0) := rfl
  have HU : Hid (ndOf (Lib.bitLen d) = Lib.bitLen d * 78913 / 262144) := rfl
  clear hT
  generalize hL : Lib.bitLen d = L at *
  have HL := Lib.hid hL
  clear hL
  generalize hN : ndOf L = n at *
  have hp : 0 < 10 ^ n := Nat.pow_pos (by omega)
  generalize hP : 10 ^ n = P at *
  have hP9 : P < 18446744073709551616 := by
    have h := Nat.pow_le_pow_right (n := 10) (by omega) hn
    rw [hP] at h
    have : (10 : Nat) ^ 19 = 10000000000000000000 := by decide
    omega
  have HN := Lib.hid hN
  clear hN hP
  have hn1 : (n : Int) < 20 := by omega
  go_enter Tryd.func7, Tryd.ntmps7
  go_wp2_with fail
  refine (Tryd.bits_Len64 _ _ (by omega) (by omega)).mono ?_
  rintro e w' ⟨rfl, rfl⟩
  rw [Int.toNat_natCast, HL.out]
  go_wp2_with fail
  refine (log10_any L _ b2).mono ?_
  rintro e w' ⟨rfl, rfl⟩
  rw [HN.out]
  by_cases hge : P ≤ d
  · have E : Hid (ndRes d = n + 1) := by show _ = _; rw [HR.out, if_pos hge]
    clear h0
    go_wp2_with fail
    refine (bool2_true _).mono ?_
    rintro e w' ⟨rfl, rfl⟩
    go_wp2_with fail
    go_ret
    exact ⟨ret_int (by rw [E.out]; rfl), rfl⟩
  · have E : Hid (ndRes d = n) := by show _ = _; rw [HR.out, if_neg hge]; rfl
    clear h0
    go_wp2_with fail
    refine (bool2_false _).mono ?_
    rintro e w' ⟨rfl, rfl⟩
    go_wp2_with fail
    go_ret
    exact ⟨ret_int (by rw [E.out]), rfl⟩
theorem numDigits_gs (d : Nat) (w : World) (h0 : d ≠ 0) (h1 : d < 18446744073709551616) (hT : ∀ i, i ≤ 19 → w.cell? ⟨0, i, none⟩ = some (.int .u64 ((10 ^ i : Nat) : Int))) :
    Calls Tryd.prog 6 #[.int .u64 d] w fun e w' => e = .returned (.int .i64 (ndRes d : Int)) ∧ w = w' := by
  have HT := Lib.hid hT
  have H0 := Lib.hid h0
  clear hT h0
  go_enter Tryd.func6, Tryd.ntmps6
  go_wp2_with fail
  refine (numDigits_any d _ H0.out h1 HT.out).mono ?_
  rintro e w' ⟨rfl, rfl⟩
  go_wp2_with fail
  go_ret
  exact ⟨rfl, rfl⟩
theorem numDigits_out (d : Nat) (w : World) (h0 : d ≠ 0) (h1 : d < 18446744073709551616) (hT : ∀ i, i ≤ 19 → w.cell? ⟨0, i, none⟩ = some (.int .u64 ((10 ^ i : Nat) : Int))) :
    Calls Tryd.prog 4 #[.int .u64 d] w fun e w' => e = .returned (.int .i64 (ndRes d : Int)) ∧ w = w' := by
  have HT := Lib.hid hT
  have H0 := Lib.hid h0
  clear hT h0
  go_enter Tryd.func4, Tryd.ntmps4
  go_wp2_with fail
  refine (numDigits_gs d _ H0.out h1 HT.out).mono ?_
  rintro e w' ⟨rfl, rfl⟩
  go_wp2_with fail
  go_ret
  exact ⟨rfl, rfl⟩
theorem walk_FnExactNumDigits (a0 : Int) (w0 : (Lit.int .u64 a0).wf = true) (w : World) (hT : ∀ i, i ≤ 19 → w.cell? ⟨0, i, none⟩ = some (.int .u64 ((10 ^ i : Nat) : Int))) :
    Calls Tryd.prog 3 #[.int .u64 a0] w fun e w' => e = .returned (.bool true) ∧ Below w.heap.size w w' := by
  have b0 := bounds_u64 w0
  obtain ⟨d, rfl⟩ := Int.eq_ofNat_of_zero_le b0.1
  have HT := Lib.hid hT
  clear hT w0
  by_cases h0 : d = 0
  · subst h0
    have h9 : ((ndRes 9 : Nat) : Int) = 1 := by rw [nd_len (by omega) (by omega), decL_small (by omega)]; rfl
    have t9 : (((ndRes 9 : Nat) : Int) == 1) = true := by rw [h9]; rfl
    clear h9
    go_enter Tryd.func3, Tryd.ntmps3
    go_wp2_with fail
    refine (numDigits_out 9 _ (by omega) (by omega) HT.out).mono ?_
    rintro e w' ⟨rfl, rfl⟩
    go_wp2_with fail
    go_ret
    exact ⟨rfl, Below.refl _ _⟩
  · have E := nd_len h0 (by omega)
    have t : (((ndRes d : Nat) : Int) == ((bs (decL d)).size : Int)) = true := by rw [E, bs_size]; simp
    have t0 : ((d : Int) == 0) = false := by simp; omega
    have H0 := Lib.hid h0
    clear E h0
    go_enter Tryd.func3, Tryd.ntmps3
    go_wp2_with fail
    refine (numDigits_out d _ H0.out (by omega) HT.out).mono ?_
    rintro e w' ⟨rfl, rfl⟩
    go_wp2_with fail
    refine (dec_out _ _ (by omega) (by omega)).mono ?_
    rintro e w2 ⟨rfl, hb⟩
    have HB := Lib.hid hb
    clear hb
    rw [Int.toNat_natCast]
    go_wp2_with fail
    go_ret
    exact ⟨rfl, HB.out⟩
theorem gTab : Tryd.prog.globalNamed (Rows.fnExactNumDigitsSpec.vars.headD default) = some 0 := by kernel_rfl
theorem gTabType : (Tryd.prog.globals[0]?).map (·.type) = some 29 := by kernel_rfl
theorem cells_u64 : Tryd.prog.cellsOf 22 = 1 := by kernel_rfl
theorem cells_tab : Tryd.prog.cellsOf 29 = 20 := by kernel_rfl
/-- the powers of 10 -/
def tens : List Int := [1, 10, 100, 1000, 10000, 100000, 1000000, 10000000, 100000000, 1000000000, 10000000000, 100000000000, 1000000000000, 10000000000000, 100000000000000, 1000000000000000, 10000000000000000, 100000000000000000, 1000000000000000000, 10000000000000000000]
theorem tens_at : ∀ i : Fin 20, tens.getD i.val 0 = ((10 ^ i.val : Nat) : Int) := by decide +kernel
theorem of_FnExactNumDigits {W : World} (h : laidMetH Tryd.prog Rows.fnExactNumDigitsRow.laid W) : ∀ i, i ≤ 19 → W.cell? ⟨0, i, none⟩ = some (.int .u64 ((10 ^ i : Nat) : Int)) := by
  rw [MakeChecks.laidMetH_plain _ _ _ (by kernel_rfl)] at h
  have hT := Lib.tabIs_of_head (zs := tens) (rest := []) gTab gTabType Tryd.underlying29 Tryd.underlying22 cells_u64 cells_tab h
  intro i hi
  rw [hT.cell gTab i (by show i < 20; omega)]
  have := tens_at ⟨i, by omega⟩
  simp only at this
  rw [this]
end Go.Proofs.YtekicbnfabpaeaaDoor
