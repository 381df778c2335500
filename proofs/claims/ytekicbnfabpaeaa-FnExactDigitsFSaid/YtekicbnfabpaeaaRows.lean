/-
  No cell of these rows narrows 'for every input' (looked for: loops, veiled, ifaces, maps, wideKeys, modest, calm, conditions, laid).
  DERIVED. THE GIVEN ROWS OF THIS SEAT. 11 by the template 'for every input the law returns true; each argument reads behind the call as it read before'; 0 by the template 'total and deterministic' (their statements: YtekicbnfabpaeaaTotals.lean).
  GIVEN WITH THE SEED: the statements are not yours to turn. If you find one false, say at which input.
  Laid BY PROGRAM, IN A SANDBOX (cutbox-rows.mjs): the forced cells as the released guide's own fill.sh prints them over the translation d47456ba988a08a2… (all of the seat's roots in one cut). By AI agents, Wed Nov 11 2026. No macro, syntax, notation, axiom, sorry.
-/
import Derived.Test.YtekicbnfabpaeaaChecked
import GoSem.Claim
import GoSem.ClaimJoined
import GoSem.ClaimMapViews
import Derived.JoinedTies
import Derived.KernelRfl
namespace Go.Proofs.Ytekicbnfabpaeaa
/- THE CELL 'sum', in the pinned program and in every row, IS THE sha256 OF THE DUMP (.gsa) THAT YtekicbnfabpaeaaProg.lean LOADS. Nothing in Lean hashes anything: it is a label: what it is worth is what the hold of that sum in a sandbox is worth. -/
noncomputable def Try.pinned : Pinned := { name := "ytekicbnfabpaeaa", sum := "d47456ba988a08a2e2eb380f06fdd8a8620b9f61eb00bd33c40734b8039a6e5b", checked := Try.checked }
namespace Rows
def none {H : Type} : Left H := { results := [], args := [] }

/-- 'laws.FnExactLog10Pow2': WHATEVER THE INPUT: true; the input reads as it did. -/
def fnExactLog10Pow2Spec : ChangeSpec := { name := "fnExactLog10Pow2", fn := fun _ => fun
  | [d] => { results := [.lit (.bool true)], args := [d] }
  | _ => none }
def fnExactLog10Pow2Row : OpenClaim := { program := "ytekicbnfabpaeaa", sum := "d47456ba988a08a2e2eb380f06fdd8a8620b9f61eb00bd33c40734b8039a6e5b", func := "loop.example/pub-floatroads/laws.FnExactLog10Pow2", spec := "fnExactLog10Pow2", apart := false }
def FnExactLog10Pow2Said : Prop := fnExactLog10Pow2Row.holds Try.pinned (OpenSpec.ofChange fnExactLog10Pow2Spec)

/-- ITS FALSE NEIGHBOUR: 'it returns false'. Refute it at one input. -/
def fnExactLog10Pow2Wrong : ChangeSpec := { name := "fnExactLog10Pow2", fn := fun _ => fun
  | [d] => { results := [.lit (.bool false)], args := [d] }
  | _ => none }
def FnExactLog10Pow2WrongFalsely : Prop := fnExactLog10Pow2Row.holds Try.pinned (OpenSpec.ofChange fnExactLog10Pow2Wrong)

/-- 'laws.FnExactLog2Pow10': WHATEVER THE INPUT: true; the input reads as it did. -/
def fnExactLog2Pow10Spec : ChangeSpec := { name := "fnExactLog2Pow10", fn := fun _ => fun
  | [d] => { results := [.lit (.bool true)], args := [d] }
  | _ => none }
def fnExactLog2Pow10Row : OpenClaim := { program := "ytekicbnfabpaeaa", sum := "d47456ba988a08a2e2eb380f06fdd8a8620b9f61eb00bd33c40734b8039a6e5b", func := "loop.example/pub-floatroads/laws.FnExactLog2Pow10", spec := "fnExactLog2Pow10", apart := false }
def FnExactLog2Pow10Said : Prop := fnExactLog2Pow10Row.holds Try.pinned (OpenSpec.ofChange fnExactLog2Pow10Spec)

/-- ITS FALSE NEIGHBOUR: 'it returns false'. Refute it at one input. -/
def fnExactLog2Pow10Wrong : ChangeSpec := { name := "fnExactLog2Pow10", fn := fun _ => fun
  | [d] => { results := [.lit (.bool false)], args := [d] }
  | _ => none }
def FnExactLog2Pow10WrongFalsely : Prop := fnExactLog2Pow10Row.holds Try.pinned (OpenSpec.ofChange fnExactLog2Pow10Wrong)

/-- 'laws.FnExactUnroundedRsh': WHATEVER THE INPUT: true; the input reads as it did. -/
def fnExactUnroundedRshSpec : ChangeSpec := { name := "fnExactUnroundedRsh", fn := fun _ => fun
  | [d1, d2] => { results := [.lit (.bool true)], args := [d1, d2] }
  | _ => none }
def fnExactUnroundedRshRow : OpenClaim := { program := "ytekicbnfabpaeaa", sum := "d47456ba988a08a2e2eb380f06fdd8a8620b9f61eb00bd33c40734b8039a6e5b", func := "loop.example/pub-floatroads/laws.FnExactUnroundedRsh", spec := "fnExactUnroundedRsh", apart := false }
def FnExactUnroundedRshSaid : Prop := fnExactUnroundedRshRow.holds Try.pinned (OpenSpec.ofChange fnExactUnroundedRshSpec)

/-- ITS FALSE NEIGHBOUR: 'it returns false'. Refute it at one input. -/
def fnExactUnroundedRshWrong : ChangeSpec := { name := "fnExactUnroundedRsh", fn := fun _ => fun
  | [d1, d2] => { results := [.lit (.bool false)], args := [d1, d2] }
  | _ => none }
def FnExactUnroundedRshWrongFalsely : Prop := fnExactUnroundedRshRow.holds Try.pinned (OpenSpec.ofChange fnExactUnroundedRshWrong)

/-- 'laws.FnExactRounded': WHATEVER THE INPUT: true; the input reads as it did. -/
def fnExactRoundedSpec : ChangeSpec := { name := "fnExactRounded", fn := fun _ => fun
  | [d] => { results := [.lit (.bool true)], args := [d] }
  | _ => none }
def fnExactRoundedRow : OpenClaim := { program := "ytekicbnfabpaeaa", sum := "d47456ba988a08a2e2eb380f06fdd8a8620b9f61eb00bd33c40734b8039a6e5b", func := "loop.example/pub-floatroads/laws.FnExactRounded", spec := "fnExactRounded", unfollowed := true, recurses := true, apart := false }
def FnExactRoundedSaid : Prop := fnExactRoundedRow.holds Try.pinned (OpenSpec.ofChange fnExactRoundedSpec)

/-- ITS FALSE NEIGHBOUR: 'it returns false'. Refute it at one input. -/
def fnExactRoundedWrong : ChangeSpec := { name := "fnExactRounded", fn := fun _ => fun
  | [d] => { results := [.lit (.bool false)], args := [d] }
  | _ => none }
def FnExactRoundedWrongFalsely : Prop := fnExactRoundedRow.holds Try.pinned (OpenSpec.ofChange fnExactRoundedWrong)

/-- 'laws.FnExactUnroundedDiv': WHATEVER THE INPUT: true; the input reads as it did. -/
def fnExactUnroundedDivSpec : ChangeSpec := { name := "fnExactUnroundedDiv", fn := fun _ => fun
  | [d1, d2] => { results := [.lit (.bool true)], args := [d1, d2] }
  | _ => none }
def fnExactUnroundedDivRow : OpenClaim := { program := "ytekicbnfabpaeaa", sum := "d47456ba988a08a2e2eb380f06fdd8a8620b9f61eb00bd33c40734b8039a6e5b", func := "loop.example/pub-floatroads/laws.FnExactUnroundedDiv", spec := "fnExactUnroundedDiv", apart := false }
def FnExactUnroundedDivSaid : Prop := fnExactUnroundedDivRow.holds Try.pinned (OpenSpec.ofChange fnExactUnroundedDivSpec)

/-- ITS FALSE NEIGHBOUR: 'it returns false'. Refute it at one input. -/
def fnExactUnroundedDivWrong : ChangeSpec := { name := "fnExactUnroundedDiv", fn := fun _ => fun
  | [d1, d2] => { results := [.lit (.bool false)], args := [d1, d2] }
  | _ => none }
def FnExactUnroundedDivWrongFalsely : Prop := fnExactUnroundedDivRow.holds Try.pinned (OpenSpec.ofChange fnExactUnroundedDivWrong)

/-- 'laws.FnUnroundedRoads': WHATEVER THE INPUT: true; the input reads as it did. -/
def fnUnroundedRoadsSpec : ChangeSpec := { name := "fnUnroundedRoads", fn := fun _ => fun
  | [d1, d2] => { results := [.lit (.bool true)], args := [d1, d2] }
  | _ => none }
def fnUnroundedRoadsRow : OpenClaim := { program := "ytekicbnfabpaeaa", sum := "d47456ba988a08a2e2eb380f06fdd8a8620b9f61eb00bd33c40734b8039a6e5b", func := "loop.example/pub-floatroads/laws.FnUnroundedRoads", spec := "fnUnroundedRoads", apart := false }
def FnUnroundedRoadsSaid : Prop := fnUnroundedRoadsRow.holds Try.pinned (OpenSpec.ofChange fnUnroundedRoadsSpec)

/-- ITS FALSE NEIGHBOUR: 'it returns false'. Refute it at one input. -/
def fnUnroundedRoadsWrong : ChangeSpec := { name := "fnUnroundedRoads", fn := fun _ => fun
  | [d1, d2] => { results := [.lit (.bool false)], args := [d1, d2] }
  | _ => none }
def FnUnroundedRoadsWrongFalsely : Prop := fnUnroundedRoadsRow.holds Try.pinned (OpenSpec.ofChange fnUnroundedRoadsWrong)

/-- 'laws.FnExactBase10': WHATEVER THE INPUT: true; the input reads as it did. -/
def fnExactBase10Spec : ChangeSpec := { name := "fnExactBase10", fn := fun _ => fun
  | [d1, d2] => { results := [.lit (.bool true)], args := [d1, d2] }
  | _ => none }
def fnExactBase10Row : OpenClaim := { program := "ytekicbnfabpaeaa", sum := "d47456ba988a08a2e2eb380f06fdd8a8620b9f61eb00bd33c40734b8039a6e5b", func := "loop.example/pub-floatroads/laws.FnExactBase10", spec := "fnExactBase10", recurses := true, apart := false }
def FnExactBase10Said : Prop := fnExactBase10Row.holds Try.pinned (OpenSpec.ofChange fnExactBase10Spec)

/-- ITS FALSE NEIGHBOUR: 'it returns false'. Refute it at one input. -/
def fnExactBase10Wrong : ChangeSpec := { name := "fnExactBase10", fn := fun _ => fun
  | [d1, d2] => { results := [.lit (.bool false)], args := [d1, d2] }
  | _ => none }
def FnExactBase10WrongFalsely : Prop := fnExactBase10Row.holds Try.pinned (OpenSpec.ofChange fnExactBase10Wrong)

/-- 'laws.FnExactUnderscore': WHATEVER THE INPUT: true; the input reads as it did. -/
def fnExactUnderscoreSpec : ChangeSpec := { name := "fnExactUnderscore", fn := fun _ => fun
  | [d] => { results := [.lit (.bool true)], args := [d] }
  | _ => none }
def fnExactUnderscoreRow : OpenClaim := { program := "ytekicbnfabpaeaa", sum := "d47456ba988a08a2e2eb380f06fdd8a8620b9f61eb00bd33c40734b8039a6e5b", func := "loop.example/pub-floatroads/laws.FnExactUnderscore", spec := "fnExactUnderscore", apart := false }
def FnExactUnderscoreSaid : Prop := fnExactUnderscoreRow.holds Try.pinned (OpenSpec.ofChange fnExactUnderscoreSpec)

/-- ITS FALSE NEIGHBOUR: 'it returns false'. Refute it at one input. -/
def fnExactUnderscoreWrong : ChangeSpec := { name := "fnExactUnderscore", fn := fun _ => fun
  | [d] => { results := [.lit (.bool false)], args := [d] }
  | _ => none }
def FnExactUnderscoreWrongFalsely : Prop := fnExactUnderscoreRow.holds Try.pinned (OpenSpec.ofChange fnExactUnderscoreWrong)

/-- 'laws.FnExactDigitsE': WHATEVER THE INPUT: true; the input reads as it did. -/
def fnExactDigitsESpec : ChangeSpec := { name := "fnExactDigitsE", fn := fun _ => fun
  | [d1, d2, d3, d4, d5, d6] => { results := [.lit (.bool true)], args := [d1, d2, d3, d4, d5, d6] }
  | _ => none }
def fnExactDigitsERow : OpenClaim := { program := "ytekicbnfabpaeaa", sum := "d47456ba988a08a2e2eb380f06fdd8a8620b9f61eb00bd33c40734b8039a6e5b", func := "loop.example/pub-floatroads/laws.FnExactDigitsE", spec := "fnExactDigitsE", recurses := true, apart := false }
def FnExactDigitsESaid : Prop := fnExactDigitsERow.holds Try.pinned (OpenSpec.ofChange fnExactDigitsESpec)

/-- ITS FALSE NEIGHBOUR: 'it returns false'. Refute it at one input. -/
def fnExactDigitsEWrong : ChangeSpec := { name := "fnExactDigitsE", fn := fun _ => fun
  | [d1, d2, d3, d4, d5, d6] => { results := [.lit (.bool false)], args := [d1, d2, d3, d4, d5, d6] }
  | _ => none }
def FnExactDigitsEWrongFalsely : Prop := fnExactDigitsERow.holds Try.pinned (OpenSpec.ofChange fnExactDigitsEWrong)

/-- 'laws.FnExactDigitsF': WHATEVER THE INPUT: true; the input reads as it did. -/
def fnExactDigitsFSpec : ChangeSpec := { name := "fnExactDigitsF", fn := fun _ => fun
  | [d1, d2, d3, d4, d5] => { results := [.lit (.bool true)], args := [d1, d2, d3, d4, d5] }
  | _ => none }
def fnExactDigitsFRow : OpenClaim := { program := "ytekicbnfabpaeaa", sum := "d47456ba988a08a2e2eb380f06fdd8a8620b9f61eb00bd33c40734b8039a6e5b", func := "loop.example/pub-floatroads/laws.FnExactDigitsF", spec := "fnExactDigitsF", apart := false }
def FnExactDigitsFSaid : Prop := fnExactDigitsFRow.holds Try.pinned (OpenSpec.ofChange fnExactDigitsFSpec)

/-- ITS FALSE NEIGHBOUR: 'it returns false'. Refute it at one input. -/
def fnExactDigitsFWrong : ChangeSpec := { name := "fnExactDigitsF", fn := fun _ => fun
  | [d1, d2, d3, d4, d5] => { results := [.lit (.bool false)], args := [d1, d2, d3, d4, d5] }
  | _ => none }
def FnExactDigitsFWrongFalsely : Prop := fnExactDigitsFRow.holds Try.pinned (OpenSpec.ofChange fnExactDigitsFWrong)

/-- 'laws.FnExactAssign': WHATEVER THE INPUT: true; the input reads as it did. -/
def fnExactAssignSpec : ChangeSpec := { name := "fnExactAssign", fn := fun _ => fun
  | [d] => { results := [.lit (.bool true)], args := [d] }
  | _ => none }
def fnExactAssignRow : OpenClaim := { program := "ytekicbnfabpaeaa", sum := "d47456ba988a08a2e2eb380f06fdd8a8620b9f61eb00bd33c40734b8039a6e5b", func := "loop.example/pub-floatroads/laws.FnExactAssign", spec := "fnExactAssign", recurses := true, apart := false }
def FnExactAssignSaid : Prop := fnExactAssignRow.holds Try.pinned (OpenSpec.ofChange fnExactAssignSpec)

/-- ITS FALSE NEIGHBOUR: 'it returns false'. Refute it at one input. -/
def fnExactAssignWrong : ChangeSpec := { name := "fnExactAssign", fn := fun _ => fun
  | [d] => { results := [.lit (.bool false)], args := [d] }
  | _ => none }
def FnExactAssignWrongFalsely : Prop := fnExactAssignRow.holds Try.pinned (OpenSpec.ofChange fnExactAssignWrong)

/- THE SECOND FORM. 'bulk': how many values and letters a reading holds, each counted each time it is reached (what is shared counts as often as it is met; a slice's spare places count too). A statement '..UptoSaid' is the law's where the arguments, and the package variables that the reading takes, are together of bulk at most 1048576: NARROWER than '..Said'. Prove '..Said' where nothing that the law and all that it calls make is longer than what came in: it says more and counts as full. Else prove '..UptoSaid'. A law counts once. -/
mutual
def uptoBulk {H : Type} : DataW H → Nat
  | .lit (.string bytes) => bytes.length + 1
  | .lit _ => 1
  | .nil => 1
  | .ptr d => uptoBulk d + 1
  | .slice elems spare => uptoBulkAll elems + uptoBulkAll spare + 1
  | .agg parts => uptoBulkAll parts + 1
  | .iface _ d => uptoBulk d + 1
  | .map entries => uptoBulkEntries entries + 1
  | .held _ => 1
def uptoBulkAll {H : Type} : List (DataW H) → Nat
  | [] => 0
  | d :: r => uptoBulk d + uptoBulkAll r
def uptoBulkEntries {H : Type} : List (Lit × DataW H) → Nat
  | [] => 0
  | x :: r => uptoBulkEntry x + uptoBulkEntries r
def uptoBulkEntry {H : Type} : Lit × DataW H → Nat
  | (.string bytes, d) => bytes.length + uptoBulk d + 1
  | (_, d) => uptoBulk d + 1
 end
def uptoSmall : (H : Type) → List (DataW H) → Bool := fun _ ds => decide (uptoBulkAll ds ≤ 1048576)
def OpenSpec.upto (s : _root_.Go.ChangeSpec) : _root_.Go.OpenSpec := { _root_.Go.OpenSpec.ofChange s with cond := some uptoSmall }

/-- 'laws.FnExactLog10Pow2', WHERE WHAT IT READS IS OF BULK AT MOST 1048576: true; the input reads as it did. -/
def fnExactLog10Pow2UptoRow : OpenClaim := { program := "ytekicbnfabpaeaa", sum := "d47456ba988a08a2e2eb380f06fdd8a8620b9f61eb00bd33c40734b8039a6e5b", func := "loop.example/pub-floatroads/laws.FnExactLog10Pow2", spec := "fnExactLog10Pow2", apart := false, narrowed := true }
def FnExactLog10Pow2UptoSaid : Prop := fnExactLog10Pow2UptoRow.holds Try.pinned (OpenSpec.upto fnExactLog10Pow2Spec)

/-- 'laws.FnExactLog2Pow10', WHERE WHAT IT READS IS OF BULK AT MOST 1048576: true; the input reads as it did. -/
def fnExactLog2Pow10UptoRow : OpenClaim := { program := "ytekicbnfabpaeaa", sum := "d47456ba988a08a2e2eb380f06fdd8a8620b9f61eb00bd33c40734b8039a6e5b", func := "loop.example/pub-floatroads/laws.FnExactLog2Pow10", spec := "fnExactLog2Pow10", apart := false, narrowed := true }
def FnExactLog2Pow10UptoSaid : Prop := fnExactLog2Pow10UptoRow.holds Try.pinned (OpenSpec.upto fnExactLog2Pow10Spec)

/-- 'laws.FnExactUnroundedRsh', WHERE WHAT IT READS IS OF BULK AT MOST 1048576: true; the input reads as it did. -/
def fnExactUnroundedRshUptoRow : OpenClaim := { program := "ytekicbnfabpaeaa", sum := "d47456ba988a08a2e2eb380f06fdd8a8620b9f61eb00bd33c40734b8039a6e5b", func := "loop.example/pub-floatroads/laws.FnExactUnroundedRsh", spec := "fnExactUnroundedRsh", apart := false, narrowed := true }
def FnExactUnroundedRshUptoSaid : Prop := fnExactUnroundedRshUptoRow.holds Try.pinned (OpenSpec.upto fnExactUnroundedRshSpec)

/-- 'laws.FnExactRounded', WHERE WHAT IT READS IS OF BULK AT MOST 1048576: true; the input reads as it did. -/
def fnExactRoundedUptoRow : OpenClaim := { program := "ytekicbnfabpaeaa", sum := "d47456ba988a08a2e2eb380f06fdd8a8620b9f61eb00bd33c40734b8039a6e5b", func := "loop.example/pub-floatroads/laws.FnExactRounded", spec := "fnExactRounded", unfollowed := true, recurses := true, apart := false, narrowed := true }
def FnExactRoundedUptoSaid : Prop := fnExactRoundedUptoRow.holds Try.pinned (OpenSpec.upto fnExactRoundedSpec)

/-- 'laws.FnExactUnroundedDiv', WHERE WHAT IT READS IS OF BULK AT MOST 1048576: true; the input reads as it did. -/
def fnExactUnroundedDivUptoRow : OpenClaim := { program := "ytekicbnfabpaeaa", sum := "d47456ba988a08a2e2eb380f06fdd8a8620b9f61eb00bd33c40734b8039a6e5b", func := "loop.example/pub-floatroads/laws.FnExactUnroundedDiv", spec := "fnExactUnroundedDiv", apart := false, narrowed := true }
def FnExactUnroundedDivUptoSaid : Prop := fnExactUnroundedDivUptoRow.holds Try.pinned (OpenSpec.upto fnExactUnroundedDivSpec)

/-- 'laws.FnUnroundedRoads', WHERE WHAT IT READS IS OF BULK AT MOST 1048576: true; the input reads as it did. -/
def fnUnroundedRoadsUptoRow : OpenClaim := { program := "ytekicbnfabpaeaa", sum := "d47456ba988a08a2e2eb380f06fdd8a8620b9f61eb00bd33c40734b8039a6e5b", func := "loop.example/pub-floatroads/laws.FnUnroundedRoads", spec := "fnUnroundedRoads", apart := false, narrowed := true }
def FnUnroundedRoadsUptoSaid : Prop := fnUnroundedRoadsUptoRow.holds Try.pinned (OpenSpec.upto fnUnroundedRoadsSpec)

/-- 'laws.FnExactBase10', WHERE WHAT IT READS IS OF BULK AT MOST 1048576: true; the input reads as it did. -/
def fnExactBase10UptoRow : OpenClaim := { program := "ytekicbnfabpaeaa", sum := "d47456ba988a08a2e2eb380f06fdd8a8620b9f61eb00bd33c40734b8039a6e5b", func := "loop.example/pub-floatroads/laws.FnExactBase10", spec := "fnExactBase10", recurses := true, apart := false, narrowed := true }
def FnExactBase10UptoSaid : Prop := fnExactBase10UptoRow.holds Try.pinned (OpenSpec.upto fnExactBase10Spec)

/-- 'laws.FnExactUnderscore', WHERE WHAT IT READS IS OF BULK AT MOST 1048576: true; the input reads as it did. -/
def fnExactUnderscoreUptoRow : OpenClaim := { program := "ytekicbnfabpaeaa", sum := "d47456ba988a08a2e2eb380f06fdd8a8620b9f61eb00bd33c40734b8039a6e5b", func := "loop.example/pub-floatroads/laws.FnExactUnderscore", spec := "fnExactUnderscore", apart := false, narrowed := true }
def FnExactUnderscoreUptoSaid : Prop := fnExactUnderscoreUptoRow.holds Try.pinned (OpenSpec.upto fnExactUnderscoreSpec)

/-- 'laws.FnExactDigitsE', WHERE WHAT IT READS IS OF BULK AT MOST 1048576: true; the input reads as it did. -/
def fnExactDigitsEUptoRow : OpenClaim := { program := "ytekicbnfabpaeaa", sum := "d47456ba988a08a2e2eb380f06fdd8a8620b9f61eb00bd33c40734b8039a6e5b", func := "loop.example/pub-floatroads/laws.FnExactDigitsE", spec := "fnExactDigitsE", recurses := true, apart := false, narrowed := true }
def FnExactDigitsEUptoSaid : Prop := fnExactDigitsEUptoRow.holds Try.pinned (OpenSpec.upto fnExactDigitsESpec)

/-- 'laws.FnExactDigitsF', WHERE WHAT IT READS IS OF BULK AT MOST 1048576: true; the input reads as it did. -/
def fnExactDigitsFUptoRow : OpenClaim := { program := "ytekicbnfabpaeaa", sum := "d47456ba988a08a2e2eb380f06fdd8a8620b9f61eb00bd33c40734b8039a6e5b", func := "loop.example/pub-floatroads/laws.FnExactDigitsF", spec := "fnExactDigitsF", apart := false, narrowed := true }
def FnExactDigitsFUptoSaid : Prop := fnExactDigitsFUptoRow.holds Try.pinned (OpenSpec.upto fnExactDigitsFSpec)

/-- 'laws.FnExactAssign', WHERE WHAT IT READS IS OF BULK AT MOST 1048576: true; the input reads as it did. -/
def fnExactAssignUptoRow : OpenClaim := { program := "ytekicbnfabpaeaa", sum := "d47456ba988a08a2e2eb380f06fdd8a8620b9f61eb00bd33c40734b8039a6e5b", func := "loop.example/pub-floatroads/laws.FnExactAssign", spec := "fnExactAssign", recurses := true, apart := false, narrowed := true }
def FnExactAssignUptoSaid : Prop := fnExactAssignUptoRow.holds Try.pinned (OpenSpec.upto fnExactAssignSpec)

end Rows
end Go.Proofs.Ytekicbnfabpaeaa
