/- Plain facts on the text of a decimal number, and what the package's reader has made of it so far. No function of the program is walked here. -/
import Derived.Test.YtfkhingkmfapbaaText
import Derived.Test.YtfkhingkmfapbaaDecP
namespace Go.Proofs.Ytfkhingkmfapbaa
open Go.RowKit

theorem nth_app_l {a b : List Nat} {i : Nat} (h : i < a.length) : nth (a ++ b) i = nth a i := by
  simp only [nth, List.getD_eq_getElem?_getD, List.getElem?_append_left h]
theorem nth_app_r {a b : List Nat} {i : Nat} : nth (a ++ b) (a.length + i) = nth b i := by
  simp only [nth, List.getD_eq_getElem?_getD, List.getElem?_append_right (Nat.le_add_right _ _), Nat.add_sub_cancel_left]
theorem nth_app_at {a b : List Nat} {i j : Nat} (h : i = a.length + j) : nth (a ++ b) i = nth b j := by rw [h]; exact nth_app_r
theorem nth_cons_zero (c : Nat) (l : List Nat) : nth (c :: l) 0 = c := rfl
/-- what the parts of a text are -/
structure Parts (T : List Nat) (p : Nat) (a b x : List Nat) : Prop where
  len : T.length = p + a.length + 1 + b.length + 1 + x.length
  fa : ∀ k, k < a.length → nth T (p + k) = nth a k
  fd : nth T (p + a.length) = 46
  fb : ∀ k, k < b.length → nth T (p + a.length + 1 + k) = nth b k
  fe : nth T (p + a.length + 1 + b.length) = 101
  fx : ∀ k, k < x.length → nth T (p + a.length + 1 + b.length + 1 + k) = nth x k
theorem parts_of (s a b x : List Nat) : Parts (s ++ (a ++ [46] ++ b ++ [101]) ++ x) s.length a b x := by
  have e : s ++ (a ++ [46] ++ b ++ [101]) ++ x = s ++ (a ++ ([46] ++ (b ++ ([101] ++ x)))) := by simp
  rw [e]
  refine ⟨by simp; omega, fun k hk => ?_, ?_, fun k hk => ?_, ?_, fun k hk => ?_⟩
  · rw [nth_app_r, nth_app_l hk]
  · rw [nth_app_at (j := a.length) rfl, nth_app_at (j := 0) (by omega)]; rfl
  · rw [nth_app_at (j := a.length + 1 + k) (by omega), nth_app_at (j := 1 + k) (by omega), nth_app_at (j := k) (by simp), nth_app_l hk]
  · rw [nth_app_at (j := a.length + 1 + b.length) (by omega), nth_app_at (j := 1 + b.length) (by omega), nth_app_at (j := b.length) (by simp), nth_app_at (j := 0) (by omega)]; rfl
  · rw [nth_app_at (j := a.length + 1 + b.length + 1 + k) (by omega), nth_app_at (j := 1 + b.length + 1 + k) (by omega), nth_app_at (j := b.length + 1 + k) (by simp; omega), nth_app_at (j := 1 + k) (by omega), nth_app_at (j := k) (by simp)]

/-- the digits among the first k signs of 'a.b' -/
def digsK (a b : List Nat) (k : Nat) : List Nat := if k ≤ a.length then a.take k else a ++ b.take (k - a.length - 1)
theorem digsK_zero (a b : List Nat) : digsK a b 0 = [] := by unfold digsK; rw [if_pos (Nat.zero_le _)]; rfl
theorem take_snoc_nth' (l : List Nat) {k : Nat} (h : k < l.length) : l.take (k + 1) = l.take k ++ [nth l k] := by
  rw [List.take_succ_eq_append_getElem h]
  simp [nth, List.getD_eq_getElem?_getD, h]
theorem digsK_a {a : List Nat} (b : List Nat) {k : Nat} (h : k < a.length) : digsK a b (k + 1) = digsK a b k ++ [nth a k] := by
  unfold digsK; rw [if_pos (by omega), if_pos (by omega)]; exact take_snoc_nth' a h
theorem digsK_dot (a b : List Nat) : digsK a b (a.length + 1) = digsK a b a.length := by
  unfold digsK; rw [if_neg (by omega), if_pos (Nat.le_refl _), show a.length + 1 - a.length - 1 = 0 by omega]; simp
theorem digsK_b {a b : List Nat} {k : Nat} (h : k < b.length) : digsK a b (a.length + 1 + k + 1) = digsK a b (a.length + 1 + k) ++ [nth b k] := by
  unfold digsK
  rw [if_neg (by omega), if_neg (by omega), show a.length + 1 + k + 1 - a.length - 1 = k + 1 by omega, show a.length + 1 + k - a.length - 1 = k by omega, take_snoc_nth' b h, List.append_assoc]
theorem digsK_end (a b : List Nat) : digsK a b (a.length + 1 + b.length) = a ++ b := by
  unfold digsK; rw [if_neg (by omega), show a.length + 1 + b.length - a.length - 1 = b.length by omega, List.take_length]
theorem digsK_len_a {a b : List Nat} {k : Nat} (h : k ≤ a.length) : (digsK a b k).length = k := by unfold digsK; rw [if_pos h]; simp; omega
theorem digsK_len {a b : List Nat} (k : Nat) : (digsK a b k).length ≤ a.length + b.length := by
  unfold digsK; split <;> simp <;> omega
theorem digsK_len_b {a b : List Nat} {k : Nat} (h : k ≤ b.length) : (digsK a b (a.length + 1 + k)).length = a.length + k := by
  unfold digsK; rw [if_neg (by omega)]; simp; omega
/-- where the point stands -/
def dotK (a : List Nat) (k : Nat) : Int := if k ≤ a.length then 0 else a.length
theorem headL_snoc (X : List Nat) (c : Nat) : headL (X ++ [c]) = if headL X = [] ∧ c = 48 then [] else headL X ++ [c] := by
  induction X with
  | nil =>
    by_cases h : c = 48
    · simp [headL, h]
    · simp [headL, h]
  | cons x r ih =>
    by_cases h : x = 48
    · simp only [List.cons_append, headL, if_pos h]; exact ih
    · simp [headL, h]
theorem headL_snoc0 {X : List Nat} (h : (headL X).length = 0) : headL (X ++ [48]) = [] := by
  rw [headL_snoc, if_pos ⟨List.eq_nil_of_length_eq_zero h, rfl⟩]
theorem headL_snoc1 {X : List Nat} {c : Nat} (h : ¬ ((headL X).length = 0 ∧ c = 48)) : headL (X ++ [c]) = headL X ++ [c] := by
  rw [headL_snoc, if_neg (fun e => h ⟨by rw [e.1]; rfl, e.2⟩)]
theorem headL_le (X : List Nat) : (headL X).length ≤ X.length := by
  induction X with
  | nil => exact Nat.le_refl _
  | cons c r ih =>
    unfold headL
    split
    · simp; omega
    · exact Nat.le_refl _

/-- the reader's state: the digits X are read, the point counts from dot on -/
def SetSt (w wr : World) (b : Nat) (X : List Nat) (dot : Int) (neg : Bool) : Prop :=
  ∃ D, DecBox wr b D ((headL X).length : Nat) (dot - ((X.length : Int) - ((headL X).length : Nat))) neg false ∧ D.take (headL X).length = headL X ∧ Only b w wr
theorem setSt_zero {w wr : World} {b : Nat} {X : List Nat} {dot : Int} {neg : Bool} {D : List Nat} (hd : DecBox wr b D ((headL X).length : Nat) (dot - ((X.length : Int) - ((headL X).length : Nat))) neg false) (ho : Only b w wr) (h0 : (headL X).length = 0) :
    SetSt w (wr.setCell ⟨b, 801, none⟩ (.int .i64 (dot - ((X.length : Int) - ((headL X).length : Nat)) - 1))) b (X ++ [48]) dot neg := by
  refine ⟨D, ?_, by rw [headL_snoc0 h0]; rfl, ho.setCell _ _⟩
  have := hd.setDp (dot - ((X.length : Int) - ((headL X).length : Nat)) - 1)
  rw [headL_snoc0 h0]
  have e : dot - (((X ++ [48]).length : Int) - (([] : List Nat).length : Nat)) = dot - ((X.length : Int) - ((headL X).length : Nat)) - 1 := by simp; omega
  rw [e]
  rw [h0] at this
  rw [h0]
  exact this
theorem setSt_digit {w wr : World} {b : Nat} {X : List Nat} {dot : Int} {neg : Bool} {D : List Nat} {c : Nat} (hd : DecBox wr b D ((headL X).length : Nat) (dot - ((X.length : Int) - ((headL X).length : Nat))) neg false) (ht : D.take (headL X).length = headL X) (ho : Only b w wr)
    (h0 : ¬ ((headL X).length = 0 ∧ c = 48)) (hn : (headL X).length < 800) (hc : c < 256) :
    SetSt w ((wr.setCell ⟨b, (headL X).length, none⟩ (.int .u8 (c : Int))).setCell ⟨b, 800, none⟩ (.int .i64 (((headL X).length : Nat) + 1))) b (X ++ [c]) dot neg := by
  refine ⟨D.set (headL X).length c, ?_, ?_, (ho.setCell _ _).setCell _ _⟩
  · have := (hd.set hn hc).setNd (((headL X).length : Nat) + 1)
    rw [headL_snoc1 h0]
    have e : dot - (((X ++ [c]).length : Int) - ((headL X ++ [c]).length : Nat)) = dot - ((X.length : Int) - ((headL X).length : Nat)) := by simp; omega
    rw [e]
    have e2 : (((headL X ++ [c]).length : Nat) : Int) = ((headL X).length : Nat) + 1 := by simp
    rw [e2]
    exact this
  · rw [headL_snoc1 h0]
    have hl : D.length = 800 := hd.1
    have e : (headL X ++ [c]).length = (headL X).length + 1 := by simp
    rw [e, take_snoc_nth' _ (by rw [List.length_set]; omega)]
    congr 1
    · rw [List.take_set_of_le (Nat.le_refl _)]; exact ht
    · simp [nth, List.getD_eq_getElem?_getD, show (headL X).length < D.length by omega]
theorem setSt_dot {w wr : World} {b : Nat} {X : List Nat} {neg : Bool} {D : List Nat} (hd : DecBox wr b D ((headL X).length : Nat) (0 - ((X.length : Int) - ((headL X).length : Nat))) neg false) (ht : D.take (headL X).length = headL X) (ho : Only b w wr) :
    SetSt w (wr.setCell ⟨b, 801, none⟩ (.int .i64 ((headL X).length : Nat))) b X X.length neg := by
  refine ⟨D, ?_, ht, ho.setCell _ _⟩
  have := hd.setDp ((headL X).length : Nat)
  have e : (X.length : Int) - ((X.length : Int) - ((headL X).length : Nat)) = ((headL X).length : Nat) := by omega
  rw [e]; exact this
theorem SetSt.drewN {w wr : World} {b : Nat} {X : List Nat} {dot : Int} {neg : Bool} (h : SetSt w wr b X dot neg) (n : Nat) : SetSt w (wr.drewN n) b X dot neg := by
  obtain ⟨D, h1, h2, h3⟩ := h; exact ⟨D, h1, h2, h3.drewN n⟩
theorem SetSt.drew {w wr : World} {b : Nat} {X : List Nat} {dot : Int} {neg : Bool} (h : SetSt w wr b X dot neg) : SetSt w wr.drew b X dot neg := by
  obtain ⟨D, h1, h2, h3⟩ := h; exact ⟨D, h1, h2, h3.drew⟩
/-- an exponent's sign and digits -/
def ExpIs (x : List Nat) (e : Int) : Prop := ∃ E : List Nat, Digs E ∧ 1 ≤ E.length ∧ E.length ≤ 3 ∧ ((x = [45] ++ E ∧ e = -(valD E : Int)) ∨ (x = E ∧ e = valD E))
theorem ExpIs.len {x : List Nat} {e : Int} (h : ExpIs x e) : 1 ≤ x.length ∧ x.length ≤ 4 := by
  obtain ⟨E, _, h1, h2, h3 | h3⟩ := h
  · rw [h3.1]; simp; omega
  · rw [h3.1]; omega
theorem expIs_of {e : Int} (h0 : -1000 < e) (h1 : e < 1000) : ExpIs (expL e) e := by
  refine ⟨decL e.natAbs, decL_digs _, decL_len_pos _, decL_len_le (k := 2) (by omega), ?_⟩
  rw [valD_dec]
  unfold expL
  by_cases h : e < 0
  · left; rw [if_pos h]; exact ⟨rfl, by omega⟩
  · right; rw [if_neg h]; exact ⟨rfl, by omega⟩
/-- what set answers and leaves: the digits without zeros in front, the point, the sign -/
def SetPost (b0 : Nat) (a b : List Nat) (e : Int) (neg : Bool) (w : World) (r : Ending) (w' : World) : Prop :=
  r = .returned (.bool (decide (0 < (a ++ b).length))) ∧ ∃ D dp, DecBox w' b0 D ((headL (a ++ b)).length : Nat) dp neg false ∧ D.take (headL (a ++ b)).length = headL (a ++ b) ∧ Only b0 w w' ∧ -1500 ≤ dp ∧ dp ≤ 1500 ∧
    (0 < (a ++ b).length → dp = (a.length : Int) - ((a ++ b).length - ((headL (a ++ b)).length : Nat) : Int) + e)
end Go.Proofs.Ytfkhingkmfapbaa
