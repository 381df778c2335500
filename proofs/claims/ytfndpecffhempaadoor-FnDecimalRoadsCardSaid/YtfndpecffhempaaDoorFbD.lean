/- Words for the walk of floatBits: powtab in memory, a format's cells, the frame at a jump. Written by gen_fbw.py. -/
import Derived.Test.YtfndpecffhempaaDoorFbT
import Derived.Test.YtfndpecffhempaaDoorFbJ
import Derived.Test.YtfndpecffhempaaDoorShf
import Derived.WalkMore
namespace Go.Proofs.YtfndpecffhempaaDoor
open Go.RowKit

theorem i64_and_nat (a b : Nat) (ha : a < 9223372036854775808) (hb : b < 9223372036854775808) : bits .and .i64 (a : Int) (b : Int) = ((a &&& b : Nat) : Int) := by
  have hx : a &&& b < 2 ^ 63 := Nat.and_lt_two_pow _ (by omega)
  show IntKind.i64.wrap ((BitVec.ofInt 64 (a : Int) &&& BitVec.ofInt 64 (b : Int)).toNat : Int) = _
  rw [BitVec.toNat_and, ofInt_u64 a (by omega), ofInt_u64 b (by omega), IntWalk.i64_in _ (by omega)]
theorem i64_low {x k M : Nat} (hx : x ≤ M) (hk : k ≤ 60) (hM : M = 2 ^ k - 1) : bits .and .i64 (x : Int) (M : Int) = (x : Int) := by
  have h1 := pow60 hk
  have h2 := two_pos k
  rw [i64_and_nat x M (by omega) (by omega), hM, Nat.and_two_pow_sub_one_eq_mod, Nat.mod_eq_of_lt (by omega)]
theorem join_low {m x k : Nat} (hm : m < 2 ^ k) (h1 : m < 18446744073709551616) (h2 : x * 2 ^ k < 18446744073709551616) : bits .or .u64 (m : Int) ((x * 2 ^ k : Nat) : Int) = ((x * 2 ^ k + m : Nat) : Int) := by
  rw [u64_or_nat _ _ h1 h2, Nat.or_comm, nat_join k (x * 2 ^ k) m (Nat.mul_mod_left _ _) hm]
theorem shl_lit {x k : Nat} (h : x * 2 ^ k < 18446744073709551616) : IntKind.u64.wrap ((x : Int) * 2 ^ k) = ((x * 2 ^ k : Nat) : Int) := by
  have e : (x : Int) * 2 ^ k = ((x * 2 ^ k : Nat) : Int) := by rw [Int.natCast_mul, Int.natCast_pow]; rfl
  rw [e]; exact IntWalk.u64_in _ (by omega)
/-- powtab in memory, below block B -/
def PowT (w : World) (B : Nat) : Prop :=
  0 < B ∧ B ≤ w.heap.size ∧ ∃ pb po cap, pb < B ∧ w.cell? ⟨0, 0, none⟩ = some (.slice (some ⟨pb, po, none⟩) 9 cap) ∧ ∀ k, k < 9 → w.cell? ⟨pb, po + k, none⟩ = some (.int .i64 (ptN k : Int))
theorem PowT.later {w w' : World} {B B' : Nat} (h : PowT w B) (hb : Below B' w w') (hB : B ≤ B') : PowT w' B := by
  obtain ⟨h1, h2, pb, po, cap, h3, h4, h5⟩ := h
  refine ⟨h1, Nat.le_trans h2 hb.size, pb, po, cap, h3, ?_, fun k hk => ?_⟩
  · rw [hb.cell (p := ⟨0, 0, none⟩) (Nat.lt_of_lt_of_le h1 hB)]; exact h4
  · rw [hb.cell (p := ⟨pb, po + k, none⟩) (Nat.lt_of_lt_of_le h3 hB)]; exact h5 k hk
theorem PowT.only {w w' : World} {B b : Nat} (h : PowT w B) (ho : Only b w w') (hb : B ≤ b) : PowT w' B := h.later (ho.below hb h.2.1) (Nat.le_refl _)
/-- a format's cells -/
def FltBox (w : World) (fb F E : Nat) (bias : Int) : Prop := Box w 94 fb #[.int .u64 (F : Int), .int .u64 (E : Int), .int .i64 bias]
theorem FltBox.ne {w : World} {fb F E b : Nat} {bias : Int} {D : List Nat} {nd dp : Int} {neg tr : Bool} (h : FltBox w fb F E bias) (hd : DecBox w b D nd dp neg tr) : fb ≠ b := by
  rintro rfl
  have h1 := h
  have h2 := hd.2.2
  unfold FltBox Box at h1
  unfold Box at h2
  rw [h1] at h2
  injection h2 with h2
  injection h2 with _ he
  exact absurd he (by decide)
theorem FltBox.only {w w' : World} {fb F E b : Nat} {bias : Int} (h : FltBox w fb F E bias) (ho : Only b w w') (hne : fb ≠ b) : FltBox w' fb F E bias :=
  (ho.block fb h.lt (fun e => by injection e with e; exact hne e)).trans h
/-- the frame at a jump -/
def fbF (u : Nat → Value) (p0 p1 ov ex mt : Value) : Array Value := #[p0, p1, u 2, u 3, .int .u64 0, ov, ex, mt, u 8, u 9, u 10, u 11, u 12, u 13, u 14, u 15, u 16, u 17, u 18, u 19, u 20, u 21, u 22, u 23, u 24, u 25, u 26, u 27, u 28, u 29, u 30, u 31, u 32, u 33, u 34, u 35, u 36, u 37, u 38, u 39, u 40, u 41, u 42, u 43, u 44, u 45, u 46, u 47, u 48, u 49, u 50, u 51, u 52, u 53, u 54, u 55, u 56, u 57, u 58, u 59, u 60, u 61, u 62, u 63, u 64, u 65, u 66, u 67, u 68, u 69, u 70, u 71, u 72, u 73, u 74, u 75, u 76, u 77, u 78, u 79, u 80, u 81, u 82, u 83, u 84, u 85, u 86, u 87, u 88, u 89, u 90, u 91, u 92, u 93, u 94, u 95, u 96, u 97, u 98, u 99, u 100, u 101, u 102, u 103, u 104, u 105, u 106, u 107, u 108, u 109, u 110, u 111, u 112, u 113, u 114, u 115, u 116, u 117, u 118, u 119, u 120, u 121, u 122, u 123, u 124, u 125, u 126, u 127, u 128, u 129, u 130, u 131, u 132, u 133, u 134, u 135, u 136, u 137, u 138, u 139, u 140, u 141, u 142, u 143, u 144, u 145, u 146, u 147, u 148, u 149, u 150, u 151, u 152, u 153, u 154, u 155, u 156, u 157, u 158, u 159, u 160, u 161, u 162, u 163, u 164, u 165, u 166, u 167, u 168, u 169, u 170, u 171, u 172, u 173, u 174, u 175, u 176, u 177, u 178, u 179, u 180, u 181, u 182, u 183, u 184, u 185, u 186, u 187, u 188, u 189, u 190, u 191, u 192, u 193, u 194, u 195, u 196, u 197, u 198, u 199, u 200, u 201, u 202, u 203, u 204, u 205, u 206, u 207, u 208, u 209, u 210, u 211, u 212, u 213, u 214, u 215, u 216, u 217, u 218, u 219, u 220, u 221, u 222, u 223, u 224, u 225, u 226, u 227, u 228, u 229, u 230, u 231, u 232, u 233, u 234, u 235, u 236, u 237, u 238, u 239, u 240, u 241, u 242]
/-- what is known at a jump to label l (0: out, 1: overflow); r: the rung that is looked for -/
def FbEnd (b : Nat) (neg : Bool) (r : Nat) (F top : Nat) (bias : Int) (w : World) (l : Nat) (ov : Bool) (ex : Int) (mt : Nat) (w' : World) : Prop :=
  Only b w w' ∧ w'.cell? ⟨b, 802, none⟩ = some (.bool neg) ∧ ((l = 0 ∧ mt < 2 ^ 60 ∧ ∃ x : Nat, ex - bias = (x : Int) ∧ x ≤ top ∧ r = x * 2 ^ F + mt % 2 ^ F ∧ ov = decide (r = top * 2 ^ F)) ∨ (l = 1 ∧ r = top * 2 ^ F))
theorem and_bit {m k : Nat} (h : m < 2 ^ (k + 1)) (hk : k ≤ 60) : bits .and .u64 (m : Int) ((2 ^ k : Nat) : Int) = ((if 2 ^ k ≤ m then 2 ^ k else 0 : Nat) : Int) := by
  have h1 := pow60 hk
  rw [Nat.pow_succ] at h
  rw [u64_and_nat _ _ (by omega) (by omega)]
  have hp := two_pos k
  congr 1
  apply Nat.eq_of_testBit_eq
  intro i
  rw [Nat.testBit_and, Nat.testBit_two_pow]
  by_cases hm : 2 ^ k ≤ m
  · rw [if_pos hm, Nat.testBit_two_pow]
    by_cases hi : k = i
    · subst hi
      have e : m / 2 ^ k = 1 := Nat.div_eq_of_lt_le (by omega) (by omega)
      first | (rw [Nat.testBit_eq_decide_div_mod_eq, e]; simp) | (unfold Nat.testBit; rw [Nat.shiftRight_eq_div_pow, e]; simp)
    · simp [hi]
  · rw [if_neg hm]
    by_cases hi : k = i
    · subst hi
      rw [Nat.testBit_lt_two_pow (by omega)]; simp
    · simp [hi]
theorem three_way {m F : Nat} (h : m ≤ 2 ^ (F + 1)) : m = 2 ^ (F + 1) ∨ (2 ^ F ≤ m ∧ m < 2 ^ (F + 1)) ∨ m < 2 ^ F := by
  rcases Nat.lt_or_ge m (2 ^ F) with h1 | h1
  · exact .inr (.inr h1)
  · rcases Nat.eq_or_lt_of_le h with h2 | h2
    · exact .inl h2
    · exact .inr (.inl ⟨h1, h2⟩)
theorem endA {r y F top m : Nat} (hm : m = 2 ^ (F + 1)) (h : r = min (y * 2 ^ F + m) (top * 2 ^ F)) : (top ≤ y + 2 → r = top * 2 ^ F) ∧ (y + 2 < top → r = (y + 2) * 2 ^ F + 2 ^ F % 2 ^ F ∧ r < top * 2 ^ F) := by
  have e : y * 2 ^ F + m = (y + 2) * 2 ^ F := by rw [hm, Nat.pow_succ, Nat.add_mul, Nat.mul_comm 2]
  rw [e] at h
  rw [Nat.mod_self, Nat.add_zero]
  refine ⟨fun h1 => ?_, fun h1 => ?_⟩
  · rw [h]; exact Nat.min_eq_right (Nat.mul_le_mul_right _ h1)
  · have h2 : (y + 2) * 2 ^ F < top * 2 ^ F := Nat.mul_lt_mul_of_pos_right h1 (two_pos F)
    rw [h, Nat.min_eq_left (Nat.le_of_lt h2)]
    exact ⟨rfl, h2⟩
theorem endB {r y F top m : Nat} (hm : 2 ^ F ≤ m ∧ m < 2 ^ (F + 1)) (hy : y + 1 < top) (h : r = min (y * 2 ^ F + m) (top * 2 ^ F)) : r = (y + 1) * 2 ^ F + m % 2 ^ F ∧ r < top * 2 ^ F := by
  obtain ⟨h1, h2⟩ := hm
  rw [Nat.pow_succ] at h2
  have e1 : m % 2 ^ F = m - 2 ^ F := by rw [Nat.mod_eq_sub_mod h1, Nat.mod_eq_of_lt (by omega)]
  have e2 : (y + 1 + 1) * 2 ^ F ≤ top * 2 ^ F := Nat.mul_le_mul_right _ hy
  rw [Nat.add_mul, Nat.add_mul, Nat.one_mul] at e2
  rw [e1, Nat.add_mul, Nat.one_mul]
  rw [Nat.min_eq_left (by omega)] at h
  omega
theorem endC {r y F top m : Nat} (hm : m < 2 ^ F) (hy : y = 0) (ht : 1 ≤ top) (h : r = min (y * 2 ^ F + m) (top * 2 ^ F)) : r = 0 * 2 ^ F + m % 2 ^ F ∧ r < top * 2 ^ F := by
  have e : 1 * 2 ^ F ≤ top * 2 ^ F := Nat.mul_le_mul_right _ ht
  rw [Nat.one_mul] at e
  rw [hy, Nat.zero_mul, Nat.zero_add, Nat.min_eq_left (by omega)] at h
  rw [Nat.zero_mul, Nat.zero_add, Nat.mod_eq_of_lt hm]
  exact ⟨h, by omega⟩
theorem rint_all (b : Nat) (D l : List Nat) (dp : Int) (neg tr : Bool) (w : World) (h : DecBox w b D (l.length : Nat) dp neg tr) (ht : D.take l.length = l) (hl : l.length ≤ 800) (hd : Digs l) (hp : dp ≤ 19) :
    Calls Tryd.prog 61 #[.pointer (some ⟨b, 0, none⟩)] w fun e w' => e = .returned (.int .u64 ((mantV l dp tr : Nat) : Int)) ∧ w = w' := by
  unfold mantV
  by_cases hz : dp < 0
  · rw [if_pos hz]; exact rint_neg b D l.length dp neg tr w h hz
  · rw [if_neg hz]
    obtain ⟨d, rfl⟩ := Int.eq_ofNat_of_zero_le (show 0 ≤ dp by omega)
    rw [Int.toNat_natCast, ← rI_take d tr ht]
    exact rint_any b D l.length d neg tr w h hl (by rw [ht]; exact hd) (by omega)
/-- what holds of the digits on the road -/
def FbQ (g V : Nat) (E lo hi : Int) (l : List Nat) (dp : Int) (tr : Bool) : Prop := App g V l dp tr E ∧ Lead l ∧ l.length ≤ 800 ∧ lo ≤ dp ∧ dp ≤ hi
def fbJ (b fb : Nat) (neg : Bool) (r F top : Nat) (bias : Int) (w : World) (l : Nat) (a : Act) (w' : World) : Prop :=
  ∃ (ov : Bool) (ex : Int) (mt : Nat), a = ⟨fbF (fun i => a.tmps.getD i undef) (.pointer (some ⟨b, 0, none⟩)) (.pointer (some ⟨fb, 0, none⟩)) (.bool ov) (.int .i64 ex) (.int .u64 (mt : Int)), []⟩ ∧ Hid (FbEnd b neg r F top bias w l ov ex mt w')
end Go.Proofs.YtfndpecffhempaaDoor
