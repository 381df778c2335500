/- The powers of ten and the format's numbers of the package, by contracts. -/
import Derived.Test.YtfkhingkmfapbaaIee
import Derived.Test.YtfkhingkmfapbaaNatP
import Derived.WalkLawsBesides
import Derived.Laws.Externs
import Derived.KernelRfl
namespace Go.Proofs.Ytfkhingkmfapbaa
open Go.RowKit

/-- the words of the nearest floats -/
def w64 (neg : Bool) (N K : Nat) : Nat := Ieee.double.word neg (rungQ 52 (-1074) 2047 N K)
def w32 (neg : Bool) (N K : Nat) : Nat := Ieee.single.word neg (rungQ 23 (-149) 255 N K)
def p64 : List Nat := [4607182418800017408, 4621819117588971520, 4636737291354636288, 4652007308841189376, 4666723172467343360, 4681608360884174848, 4696837146684686336, 4711630319722168320, 4726483295884279808, 4741671816366391296, 4756540486875873280, 4771362005757984768, 4786511204640096256, 4801453603149578240, 4816244402031689728, 4831355200913801216, 4846369599423283200, 4861130398305394688, 4876203697187506176, 4891288408196988160, 4906019910204099648, 4921056587992461136, 4936209963552724370]
def p32 : List Nat := [1065353216, 1092616192, 1120403456, 1148846080, 1176256512, 1203982336, 1232348160, 1259902592, 1287568416, 1315859240, 1343554297]
theorem p64_is : ∀ k, k < 23 → p64.getD k 0 = w64 false (10 ^ k) 1 := by decide +kernel
theorem p32_is : ∀ k, k < 11 → p32.getD k 0 = w32 false (10 ^ k) 1 := by decide +kernel
def low64v : Nat := 14054727237768577024
theorem low64 : low64v = w64 true (10 ^ 15) 1 := by decide +kernel
def low32v : Nat := 3407386240
theorem low32 : low32v = w32 true (10 ^ 7) 1 := by decide +kernel

set_option maxHeartbeats 4000000 in
set_option maxRecDepth 100000 in
theorem pow64_any (k : Nat) (w : World) (hk : k < 23) : Calls Try.prog 79 #[.int .i64 (k : Int)] w fun e w' => e = .returned (.float .f64 (w64 false (10 ^ k) 1)) ∧ Below w.heap.size w w' := by
  rw [← p64_is k hk]
  rcases (show k = 0 ∨ k = 1 ∨ k = 2 ∨ k = 3 ∨ k = 4 ∨ k = 5 ∨ k = 6 ∨ k = 7 ∨ k = 8 ∨ k = 9 ∨ k = 10 ∨ k = 11 ∨ k = 12 ∨ k = 13 ∨ k = 14 ∨ k = 15 ∨ k = 16 ∨ k = 17 ∨ k = 18 ∨ k = 19 ∨ k = 20 ∨ k = 21 ∨ k = 22 by omega) with rfl | rfl | rfl | rfl | rfl | rfl | rfl | rfl | rfl | rfl | rfl | rfl | rfl | rfl | rfl | rfl | rfl | rfl | rfl | rfl | rfl | rfl | rfl
  all_goals
    go_enter Try.func79, Try.ntmps79
    go_wp2_with fail
    go_ret
    exact ⟨rfl, below_new _ _⟩

set_option maxHeartbeats 4000000 in
set_option maxRecDepth 100000 in
theorem pow32_any (k : Nat) (w : World) (hk : k < 11) : Calls Try.prog 76 #[.int .i64 (k : Int)] w fun e w' => e = .returned (.float .f32 (w32 false (10 ^ k) 1)) ∧ Below w.heap.size w w' := by
  rw [← p32_is k hk]
  rcases (show k = 0 ∨ k = 1 ∨ k = 2 ∨ k = 3 ∨ k = 4 ∨ k = 5 ∨ k = 6 ∨ k = 7 ∨ k = 8 ∨ k = 9 ∨ k = 10 by omega) with rfl | rfl | rfl | rfl | rfl | rfl | rfl | rfl | rfl | rfl | rfl
  all_goals
    go_enter Try.func76, Try.ntmps76
    go_wp2_with fail
    go_ret
    exact ⟨rfl, below_new _ _⟩

theorem bits64_run (b : Nat) (w : World) : (callFunc 36 #[.float .f64 b]).run Try.prog w = .ok (.value (.int .u64 (b : Int))) w := by
  rw [run_callFunc_extern (e := Extern.MathFloatBits.float64bits) Try.func36 (by kernel_rfl) (by kernel_rfl) (by kernel_rfl) (by kernel_rfl)]
  rfl
theorem bits32_run (b : Nat) (w : World) : (callFunc 33 #[.float .f32 b]).run Try.prog w = .ok (.value (.int .u32 (b : Int))) w := by
  rw [run_callFunc_extern (e := Extern.MathFloatBits.float32bits) Try.func33 (by kernel_rfl) (by kernel_rfl) (by kernel_rfl) (by kernel_rfl)]
  rfl

theorem info64_any (w : World) : Calls Try.prog 78 #[] w fun e w' => e = .returned (.pointer (some ⟨w.heap.size, 0, none⟩)) ∧ w' = w.alloc (.cells #[.int .u64 52, .int .u64 11, .int .i64 (-1023)] 106) := by
  go_enter Try.func78, Try.ntmps78
  go_wp2_with fail
  go_ret
  exact ⟨rfl, rfl⟩
end Go.Proofs.Ytfkhingkmfapbaa
