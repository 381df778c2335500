/-
  NARROWER THAN 'FOR EVERY INPUT', by the rows' own cells (each row's printed sentence says how): FnExactShift: laid · FnShiftBack: laid · FnShiftSum: laid · FnExactFloatBits: laid · FnExactSlow32: laid · FnExactSlow64: laid · FnDecimalRoads: laid.
  DERIVED. THE GIVEN ROWS OF THIS SEAT. 7 by the template 'for every input the law returns true; each argument reads behind the call as it read before'; 0 by the template 'total and deterministic' (their statements: YtfndpecffhempaaDoorTotals.lean).
  GIVEN WITH THE SEED: the statements are not yours to turn. If you find one false, say at which input.
  Laid BY PROGRAM, IN A SANDBOX (cutbox-rows.mjs): the forced cells as the released guide's own fill.sh prints them over the translation 1ef2cade253fb3dc… (all of the seat's roots in one cut). By AI agents, Wed Nov 11 2026. No macro, syntax, notation, axiom, sorry.
-/
import Derived.Test.YtfndpecffhempaaDoorChecked
import GoSem.Claim
import GoSem.ClaimJoined
import GoSem.ClaimMapViews
import Derived.JoinedTies
import Derived.KernelRfl
namespace Go.Proofs.YtfndpecffhempaaDoor
/- THE CELL 'sum', in the pinned program and in every row, IS THE sha256 OF THE DUMP (.gsa) THAT YtfndpecffhempaaDoorProg.lean LOADS. Nothing in Lean hashes anything: it is a label: what it is worth is what the hold of that sum in a sandbox is worth. -/
noncomputable def Tryd.pinned : Pinned := { name := "ytfndpecffhempaadoor", sum := "1ef2cade253fb3dc90c4c0f9ffb768e4c48ed9276bbc095aaac9707785297032", checked := Tryd.checked }
namespace Rows
def none {H : Type} : Left H := { results := [], args := [] }

/- WHAT THE LISTED PACKAGE-LEVEL VARIABLES READ AS WHEN THE CALL BEGINS. Each datum BY PROGRAM (the guide's laid-datum.mjs) off the statement by which the dump's own 'gosem.cut.vars' lays the variable. In a bare row this is a premise. The card (YtfndpecffhempaaDoorCards.lean) ties it to the program's text. -/
def laid_loop_example_pub_floatroads_pub_gostrconv_leftcheats {H : Type} : DataW H := .slice [.agg [.lit (.int .i64 0), .lit (.string [])], .agg [.lit (.int .i64 1), .lit (.string [53])], .agg [.lit (.int .i64 1), .lit (.string [50, 53])], .agg [.lit (.int .i64 1), .lit (.string [49, 50, 53])], .agg [.lit (.int .i64 2), .lit (.string [54, 50, 53])], .agg [.lit (.int .i64 2), .lit (.string [51, 49, 50, 53])], .agg [.lit (.int .i64 2), .lit (.string [49, 53, 54, 50, 53])], .agg [.lit (.int .i64 3), .lit (.string [55, 56, 49, 50, 53])], .agg [.lit (.int .i64 3), .lit (.string [51, 57, 48, 54, 50, 53])], .agg [.lit (.int .i64 3), .lit (.string [49, 57, 53, 51, 49, 50, 53])], .agg [.lit (.int .i64 4), .lit (.string [57, 55, 54, 53, 54, 50, 53])], .agg [.lit (.int .i64 4), .lit (.string [52, 56, 56, 50, 56, 49, 50, 53])], .agg [.lit (.int .i64 4), .lit (.string [50, 52, 52, 49, 52, 48, 54, 50, 53])], .agg [.lit (.int .i64 4), .lit (.string [49, 50, 50, 48, 55, 48, 51, 49, 50, 53])], .agg [.lit (.int .i64 5), .lit (.string [54, 49, 48, 51, 53, 49, 53, 54, 50, 53])], .agg [.lit (.int .i64 5), .lit (.string [51, 48, 53, 49, 55, 53, 55, 56, 49, 50, 53])], .agg [.lit (.int .i64 5), .lit (.string [49, 53, 50, 53, 56, 55, 56, 57, 48, 54, 50, 53])], .agg [.lit (.int .i64 6), .lit (.string [55, 54, 50, 57, 51, 57, 52, 53, 51, 49, 50, 53])], .agg [.lit (.int .i64 6), .lit (.string [51, 56, 49, 52, 54, 57, 55, 50, 54, 53, 54, 50, 53])], .agg [.lit (.int .i64 6), .lit (.string [49, 57, 48, 55, 51, 52, 56, 54, 51, 50, 56, 49, 50, 53])], .agg [.lit (.int .i64 7), .lit (.string [57, 53, 51, 54, 55, 52, 51, 49, 54, 52, 48, 54, 50, 53])], .agg [.lit (.int .i64 7), .lit (.string [52, 55, 54, 56, 51, 55, 49, 53, 56, 50, 48, 51, 49, 50, 53])], .agg [.lit (.int .i64 7), .lit (.string [50, 51, 56, 52, 49, 56, 53, 55, 57, 49, 48, 49, 53, 54, 50, 53])], .agg [.lit (.int .i64 7), .lit (.string [49, 49, 57, 50, 48, 57, 50, 56, 57, 53, 53, 48, 55, 56, 49, 50, 53])], .agg [.lit (.int .i64 8), .lit (.string [53, 57, 54, 48, 52, 54, 52, 52, 55, 55, 53, 51, 57, 48, 54, 50, 53])], .agg [.lit (.int .i64 8), .lit (.string [50, 57, 56, 48, 50, 51, 50, 50, 51, 56, 55, 54, 57, 53, 51, 49, 50, 53])], .agg [.lit (.int .i64 8), .lit (.string [49, 52, 57, 48, 49, 49, 54, 49, 49, 57, 51, 56, 52, 55, 54, 53, 54, 50, 53])], .agg [.lit (.int .i64 9), .lit (.string [55, 52, 53, 48, 53, 56, 48, 53, 57, 54, 57, 50, 51, 56, 50, 56, 49, 50, 53])], .agg [.lit (.int .i64 9), .lit (.string [51, 55, 50, 53, 50, 57, 48, 50, 57, 56, 52, 54, 49, 57, 49, 52, 48, 54, 50, 53])], .agg [.lit (.int .i64 9), .lit (.string [49, 56, 54, 50, 54, 52, 53, 49, 52, 57, 50, 51, 48, 57, 53, 55, 48, 51, 49, 50, 53])], .agg [.lit (.int .i64 10), .lit (.string [57, 51, 49, 51, 50, 50, 53, 55, 52, 54, 49, 53, 52, 55, 56, 53, 49, 53, 54, 50, 53])], .agg [.lit (.int .i64 10), .lit (.string [52, 54, 53, 54, 54, 49, 50, 56, 55, 51, 48, 55, 55, 51, 57, 50, 53, 55, 56, 49, 50, 53])], .agg [.lit (.int .i64 10), .lit (.string [50, 51, 50, 56, 51, 48, 54, 52, 51, 54, 53, 51, 56, 54, 57, 54, 50, 56, 57, 48, 54, 50, 53])], .agg [.lit (.int .i64 10), .lit (.string [49, 49, 54, 52, 49, 53, 51, 50, 49, 56, 50, 54, 57, 51, 52, 56, 49, 52, 52, 53, 51, 49, 50, 53])], .agg [.lit (.int .i64 11), .lit (.string [53, 56, 50, 48, 55, 54, 54, 48, 57, 49, 51, 52, 54, 55, 52, 48, 55, 50, 50, 54, 53, 54, 50, 53])], .agg [.lit (.int .i64 11), .lit (.string [50, 57, 49, 48, 51, 56, 51, 48, 52, 53, 54, 55, 51, 51, 55, 48, 51, 54, 49, 51, 50, 56, 49, 50, 53])], .agg [.lit (.int .i64 11), .lit (.string [49, 52, 53, 53, 49, 57, 49, 53, 50, 50, 56, 51, 54, 54, 56, 53, 49, 56, 48, 54, 54, 52, 48, 54, 50, 53])], .agg [.lit (.int .i64 12), .lit (.string [55, 50, 55, 53, 57, 53, 55, 54, 49, 52, 49, 56, 51, 52, 50, 53, 57, 48, 51, 51, 50, 48, 51, 49, 50, 53])], .agg [.lit (.int .i64 12), .lit (.string [51, 54, 51, 55, 57, 55, 56, 56, 48, 55, 48, 57, 49, 55, 49, 50, 57, 53, 49, 54, 54, 48, 49, 53, 54, 50, 53])], .agg [.lit (.int .i64 12), .lit (.string [49, 56, 49, 56, 57, 56, 57, 52, 48, 51, 53, 52, 53, 56, 53, 54, 52, 55, 53, 56, 51, 48, 48, 55, 56, 49, 50, 53])], .agg [.lit (.int .i64 13), .lit (.string [57, 48, 57, 52, 57, 52, 55, 48, 49, 55, 55, 50, 57, 50, 56, 50, 51, 55, 57, 49, 53, 48, 51, 57, 48, 54, 50, 53])], .agg [.lit (.int .i64 13), .lit (.string [52, 53, 52, 55, 52, 55, 51, 53, 48, 56, 56, 54, 52, 54, 52, 49, 49, 56, 57, 53, 55, 53, 49, 57, 53, 51, 49, 50, 53])], .agg [.lit (.int .i64 13), .lit (.string [50, 50, 55, 51, 55, 51, 54, 55, 53, 52, 52, 51, 50, 51, 50, 48, 53, 57, 52, 55, 56, 55, 53, 57, 55, 54, 53, 54, 50, 53])], .agg [.lit (.int .i64 13), .lit (.string [49, 49, 51, 54, 56, 54, 56, 51, 55, 55, 50, 49, 54, 49, 54, 48, 50, 57, 55, 51, 57, 51, 55, 57, 56, 56, 50, 56, 49, 50, 53])], .agg [.lit (.int .i64 14), .lit (.string [53, 54, 56, 52, 51, 52, 49, 56, 56, 54, 48, 56, 48, 56, 48, 49, 52, 56, 54, 57, 54, 56, 57, 57, 52, 49, 52, 48, 54, 50, 53])], .agg [.lit (.int .i64 14), .lit (.string [50, 56, 52, 50, 49, 55, 48, 57, 52, 51, 48, 52, 48, 52, 48, 48, 55, 52, 51, 52, 56, 52, 52, 57, 55, 48, 55, 48, 51, 49, 50, 53])], .agg [.lit (.int .i64 14), .lit (.string [49, 52, 50, 49, 48, 56, 53, 52, 55, 49, 53, 50, 48, 50, 48, 48, 51, 55, 49, 55, 52, 50, 50, 52, 56, 53, 51, 53, 49, 53, 54, 50, 53])], .agg [.lit (.int .i64 15), .lit (.string [55, 49, 48, 53, 52, 50, 55, 51, 53, 55, 54, 48, 49, 48, 48, 49, 56, 53, 56, 55, 49, 49, 50, 52, 50, 54, 55, 53, 55, 56, 49, 50, 53])], .agg [.lit (.int .i64 15), .lit (.string [51, 53, 53, 50, 55, 49, 51, 54, 55, 56, 56, 48, 48, 53, 48, 48, 57, 50, 57, 51, 53, 53, 54, 50, 49, 51, 51, 55, 56, 57, 48, 54, 50, 53])], .agg [.lit (.int .i64 15), .lit (.string [49, 55, 55, 54, 51, 53, 54, 56, 51, 57, 52, 48, 48, 50, 53, 48, 52, 54, 52, 54, 55, 55, 56, 49, 48, 54, 54, 56, 57, 52, 53, 51, 49, 50, 53])], .agg [.lit (.int .i64 16), .lit (.string [56, 56, 56, 49, 55, 56, 52, 49, 57, 55, 48, 48, 49, 50, 53, 50, 51, 50, 51, 51, 56, 57, 48, 53, 51, 51, 52, 52, 55, 50, 54, 53, 54, 50, 53])], .agg [.lit (.int .i64 16), .lit (.string [52, 52, 52, 48, 56, 57, 50, 48, 57, 56, 53, 48, 48, 54, 50, 54, 49, 54, 49, 54, 57, 52, 53, 50, 54, 54, 55, 50, 51, 54, 51, 50, 56, 49, 50, 53])], .agg [.lit (.int .i64 16), .lit (.string [50, 50, 50, 48, 52, 52, 54, 48, 52, 57, 50, 53, 48, 51, 49, 51, 48, 56, 48, 56, 52, 55, 50, 54, 51, 51, 51, 54, 49, 56, 49, 54, 52, 48, 54, 50, 53])], .agg [.lit (.int .i64 16), .lit (.string [49, 49, 49, 48, 50, 50, 51, 48, 50, 52, 54, 50, 53, 49, 53, 54, 53, 52, 48, 52, 50, 51, 54, 51, 49, 54, 54, 56, 48, 57, 48, 56, 50, 48, 51, 49, 50, 53])], .agg [.lit (.int .i64 17), .lit (.string [53, 53, 53, 49, 49, 49, 53, 49, 50, 51, 49, 50, 53, 55, 56, 50, 55, 48, 50, 49, 49, 56, 49, 53, 56, 51, 52, 48, 52, 53, 52, 49, 48, 49, 53, 54, 50, 53])], .agg [.lit (.int .i64 17), .lit (.string [50, 55, 55, 53, 53, 53, 55, 53, 54, 49, 53, 54, 50, 56, 57, 49, 51, 53, 49, 48, 53, 57, 48, 55, 57, 49, 55, 48, 50, 50, 55, 48, 53, 48, 55, 56, 49, 50, 53])], .agg [.lit (.int .i64 17), .lit (.string [49, 51, 56, 55, 55, 55, 56, 55, 56, 48, 55, 56, 49, 52, 52, 53, 54, 55, 53, 53, 50, 57, 53, 51, 57, 53, 56, 53, 49, 49, 51, 53, 50, 53, 51, 57, 48, 54, 50, 53])], .agg [.lit (.int .i64 18), .lit (.string [54, 57, 51, 56, 56, 57, 51, 57, 48, 51, 57, 48, 55, 50, 50, 56, 51, 55, 55, 54, 52, 55, 54, 57, 55, 57, 50, 53, 53, 54, 55, 54, 50, 54, 57, 53, 51, 49, 50, 53])], .agg [.lit (.int .i64 18), .lit (.string [51, 52, 54, 57, 52, 52, 54, 57, 53, 49, 57, 53, 51, 54, 49, 52, 49, 56, 56, 56, 50, 51, 56, 52, 56, 57, 54, 50, 55, 56, 51, 56, 49, 51, 52, 55, 54, 53, 54, 50, 53])], .agg [.lit (.int .i64 18), .lit (.string [49, 55, 51, 52, 55, 50, 51, 52, 55, 53, 57, 55, 54, 56, 48, 55, 48, 57, 52, 52, 49, 49, 57, 50, 52, 52, 56, 49, 51, 57, 49, 57, 48, 54, 55, 51, 56, 50, 56, 49, 50, 53])], .agg [.lit (.int .i64 19), .lit (.string [56, 54, 55, 51, 54, 49, 55, 51, 55, 57, 56, 56, 52, 48, 51, 53, 52, 55, 50, 48, 53, 57, 54, 50, 50, 52, 48, 54, 57, 53, 57, 53, 51, 51, 54, 57, 49, 52, 48, 54, 50, 53])]] []
def laid_loop_example_pub_floatroads_pub_gostrconv_powtab {H : Type} : DataW H := .slice [.lit (.int .i64 1), .lit (.int .i64 3), .lit (.int .i64 6), .lit (.int .i64 9), .lit (.int .i64 13), .lit (.int .i64 16), .lit (.int .i64 19), .lit (.int .i64 23), .lit (.int .i64 26)] []

/-- 'laws.FnExactShift': WHATEVER THE INPUT: true; the input reads as it did. -/
def fnExactShiftSpec : ChangeSpec := { name := "fnExactShift", vars := ["loop.example/pub-floatroads/pub/gostrconv.leftcheats"], fn := fun _ => fun
  | [d1, d2, d3, d4, g1] => { results := [.lit (.bool true)], args := [d1, d2, d3, d4], vars := [g1] }
  | _ => none }
def fnExactShiftRow : OpenClaim := { program := "ytfndpecffhempaadoor", sum := "1ef2cade253fb3dc90c4c0f9ffb768e4c48ed9276bbc095aaac9707785297032", func := "loop.example/pub-floatroads/laws.FnExactShift", spec := "fnExactShift", named := ["loop.example/pub-floatroads/pub/gostrconv.leftcheats"], apart := false, laid := [("loop.example/pub-floatroads/pub/gostrconv.leftcheats", laid_loop_example_pub_floatroads_pub_gostrconv_leftcheats)] }
def FnExactShiftSaid : Prop := fnExactShiftRow.holds Tryd.pinned (OpenSpec.ofChange fnExactShiftSpec)

/-- ITS FALSE NEIGHBOUR: 'it returns false'. Refute it at one input. -/
def fnExactShiftWrong : ChangeSpec := { name := "fnExactShift", vars := ["loop.example/pub-floatroads/pub/gostrconv.leftcheats"], fn := fun _ => fun
  | [d1, d2, d3, d4, g1] => { results := [.lit (.bool false)], args := [d1, d2, d3, d4], vars := [g1] }
  | _ => none }
def FnExactShiftWrongFalsely : Prop := fnExactShiftRow.holds Tryd.pinned (OpenSpec.ofChange fnExactShiftWrong)

/-- 'laws.FnShiftBack': WHATEVER THE INPUT: true; the input reads as it did. -/
def fnShiftBackSpec : ChangeSpec := { name := "fnShiftBack", vars := ["loop.example/pub-floatroads/pub/gostrconv.leftcheats"], fn := fun _ => fun
  | [d1, d2, d3, d4, g1] => { results := [.lit (.bool true)], args := [d1, d2, d3, d4], vars := [g1] }
  | _ => none }
def fnShiftBackRow : OpenClaim := { program := "ytfndpecffhempaadoor", sum := "1ef2cade253fb3dc90c4c0f9ffb768e4c48ed9276bbc095aaac9707785297032", func := "loop.example/pub-floatroads/laws.FnShiftBack", spec := "fnShiftBack", named := ["loop.example/pub-floatroads/pub/gostrconv.leftcheats"], apart := false, laid := [("loop.example/pub-floatroads/pub/gostrconv.leftcheats", laid_loop_example_pub_floatroads_pub_gostrconv_leftcheats)] }
def FnShiftBackSaid : Prop := fnShiftBackRow.holds Tryd.pinned (OpenSpec.ofChange fnShiftBackSpec)

/-- ITS FALSE NEIGHBOUR: 'it returns false'. Refute it at one input. -/
def fnShiftBackWrong : ChangeSpec := { name := "fnShiftBack", vars := ["loop.example/pub-floatroads/pub/gostrconv.leftcheats"], fn := fun _ => fun
  | [d1, d2, d3, d4, g1] => { results := [.lit (.bool false)], args := [d1, d2, d3, d4], vars := [g1] }
  | _ => none }
def FnShiftBackWrongFalsely : Prop := fnShiftBackRow.holds Tryd.pinned (OpenSpec.ofChange fnShiftBackWrong)

/-- 'laws.FnShiftSum': WHATEVER THE INPUT: true; the input reads as it did. -/
def fnShiftSumSpec : ChangeSpec := { name := "fnShiftSum", vars := ["loop.example/pub-floatroads/pub/gostrconv.leftcheats"], fn := fun _ => fun
  | [d1, d2, d3, d4, d5, g1] => { results := [.lit (.bool true)], args := [d1, d2, d3, d4, d5], vars := [g1] }
  | _ => none }
def fnShiftSumRow : OpenClaim := { program := "ytfndpecffhempaadoor", sum := "1ef2cade253fb3dc90c4c0f9ffb768e4c48ed9276bbc095aaac9707785297032", func := "loop.example/pub-floatroads/laws.FnShiftSum", spec := "fnShiftSum", named := ["loop.example/pub-floatroads/pub/gostrconv.leftcheats"], apart := false, laid := [("loop.example/pub-floatroads/pub/gostrconv.leftcheats", laid_loop_example_pub_floatroads_pub_gostrconv_leftcheats)] }
def FnShiftSumSaid : Prop := fnShiftSumRow.holds Tryd.pinned (OpenSpec.ofChange fnShiftSumSpec)

/-- ITS FALSE NEIGHBOUR: 'it returns false'. Refute it at one input. -/
def fnShiftSumWrong : ChangeSpec := { name := "fnShiftSum", vars := ["loop.example/pub-floatroads/pub/gostrconv.leftcheats"], fn := fun _ => fun
  | [d1, d2, d3, d4, d5, g1] => { results := [.lit (.bool false)], args := [d1, d2, d3, d4, d5], vars := [g1] }
  | _ => none }
def FnShiftSumWrongFalsely : Prop := fnShiftSumRow.holds Tryd.pinned (OpenSpec.ofChange fnShiftSumWrong)

/-- 'laws.FnExactFloatBits': WHATEVER THE INPUT: true; the input reads as it did. -/
def fnExactFloatBitsSpec : ChangeSpec := { name := "fnExactFloatBits", vars := ["loop.example/pub-floatroads/pub/gostrconv.powtab", "loop.example/pub-floatroads/pub/gostrconv.leftcheats"], fn := fun _ => fun
  | [d1, d2, d3, g1, g2] => { results := [.lit (.bool true)], args := [d1, d2, d3], vars := [g1, g2] }
  | _ => none }
def fnExactFloatBitsRow : OpenClaim := { program := "ytfndpecffhempaadoor", sum := "1ef2cade253fb3dc90c4c0f9ffb768e4c48ed9276bbc095aaac9707785297032", func := "loop.example/pub-floatroads/laws.FnExactFloatBits", spec := "fnExactFloatBits", named := ["loop.example/pub-floatroads/pub/gostrconv.powtab", "loop.example/pub-floatroads/pub/gostrconv.leftcheats"], apart := false, laid := [("loop.example/pub-floatroads/pub/gostrconv.powtab", laid_loop_example_pub_floatroads_pub_gostrconv_powtab), ("loop.example/pub-floatroads/pub/gostrconv.leftcheats", laid_loop_example_pub_floatroads_pub_gostrconv_leftcheats)] }
def FnExactFloatBitsSaid : Prop := fnExactFloatBitsRow.holds Tryd.pinned (OpenSpec.ofChange fnExactFloatBitsSpec)

/-- ITS FALSE NEIGHBOUR: 'it returns false'. Refute it at one input. -/
def fnExactFloatBitsWrong : ChangeSpec := { name := "fnExactFloatBits", vars := ["loop.example/pub-floatroads/pub/gostrconv.powtab", "loop.example/pub-floatroads/pub/gostrconv.leftcheats"], fn := fun _ => fun
  | [d1, d2, d3, g1, g2] => { results := [.lit (.bool false)], args := [d1, d2, d3], vars := [g1, g2] }
  | _ => none }
def FnExactFloatBitsWrongFalsely : Prop := fnExactFloatBitsRow.holds Tryd.pinned (OpenSpec.ofChange fnExactFloatBitsWrong)

/-- 'laws.FnExactSlow32': WHATEVER THE INPUT: true; the input reads as it did. -/
def fnExactSlow32Spec : ChangeSpec := { name := "fnExactSlow32", vars := ["loop.example/pub-floatroads/pub/gostrconv.powtab", "loop.example/pub-floatroads/pub/gostrconv.leftcheats"], fn := fun _ => fun
  | [d1, d2, d3, d4, g1, g2] => { results := [.lit (.bool true)], args := [d1, d2, d3, d4], vars := [g1, g2] }
  | _ => none }
def fnExactSlow32Row : OpenClaim := { program := "ytfndpecffhempaadoor", sum := "1ef2cade253fb3dc90c4c0f9ffb768e4c48ed9276bbc095aaac9707785297032", func := "loop.example/pub-floatroads/laws.FnExactSlow32", spec := "fnExactSlow32", recurses := true, named := ["loop.example/pub-floatroads/pub/gostrconv.powtab", "loop.example/pub-floatroads/pub/gostrconv.leftcheats"], apart := false, laid := [("loop.example/pub-floatroads/pub/gostrconv.powtab", laid_loop_example_pub_floatroads_pub_gostrconv_powtab), ("loop.example/pub-floatroads/pub/gostrconv.leftcheats", laid_loop_example_pub_floatroads_pub_gostrconv_leftcheats)] }
def FnExactSlow32Said : Prop := fnExactSlow32Row.holds Tryd.pinned (OpenSpec.ofChange fnExactSlow32Spec)

/-- ITS FALSE NEIGHBOUR: 'it returns false'. Refute it at one input. -/
def fnExactSlow32Wrong : ChangeSpec := { name := "fnExactSlow32", vars := ["loop.example/pub-floatroads/pub/gostrconv.powtab", "loop.example/pub-floatroads/pub/gostrconv.leftcheats"], fn := fun _ => fun
  | [d1, d2, d3, d4, g1, g2] => { results := [.lit (.bool false)], args := [d1, d2, d3, d4], vars := [g1, g2] }
  | _ => none }
def FnExactSlow32WrongFalsely : Prop := fnExactSlow32Row.holds Tryd.pinned (OpenSpec.ofChange fnExactSlow32Wrong)

/-- 'laws.FnExactSlow64': WHATEVER THE INPUT: true; the input reads as it did. -/
def fnExactSlow64Spec : ChangeSpec := { name := "fnExactSlow64", vars := ["loop.example/pub-floatroads/pub/gostrconv.powtab", "loop.example/pub-floatroads/pub/gostrconv.leftcheats"], fn := fun _ => fun
  | [d1, d2, d3, d4, g1, g2] => { results := [.lit (.bool true)], args := [d1, d2, d3, d4], vars := [g1, g2] }
  | _ => none }
def fnExactSlow64Row : OpenClaim := { program := "ytfndpecffhempaadoor", sum := "1ef2cade253fb3dc90c4c0f9ffb768e4c48ed9276bbc095aaac9707785297032", func := "loop.example/pub-floatroads/laws.FnExactSlow64", spec := "fnExactSlow64", recurses := true, named := ["loop.example/pub-floatroads/pub/gostrconv.powtab", "loop.example/pub-floatroads/pub/gostrconv.leftcheats"], apart := false, laid := [("loop.example/pub-floatroads/pub/gostrconv.powtab", laid_loop_example_pub_floatroads_pub_gostrconv_powtab), ("loop.example/pub-floatroads/pub/gostrconv.leftcheats", laid_loop_example_pub_floatroads_pub_gostrconv_leftcheats)] }
def FnExactSlow64Said : Prop := fnExactSlow64Row.holds Tryd.pinned (OpenSpec.ofChange fnExactSlow64Spec)

/-- ITS FALSE NEIGHBOUR: 'it returns false'. Refute it at one input. -/
def fnExactSlow64Wrong : ChangeSpec := { name := "fnExactSlow64", vars := ["loop.example/pub-floatroads/pub/gostrconv.powtab", "loop.example/pub-floatroads/pub/gostrconv.leftcheats"], fn := fun _ => fun
  | [d1, d2, d3, d4, g1, g2] => { results := [.lit (.bool false)], args := [d1, d2, d3, d4], vars := [g1, g2] }
  | _ => none }
def FnExactSlow64WrongFalsely : Prop := fnExactSlow64Row.holds Tryd.pinned (OpenSpec.ofChange fnExactSlow64Wrong)

/-- 'laws.FnDecimalRoads': WHATEVER THE INPUT: true; the input reads as it did. -/
def fnDecimalRoadsSpec : ChangeSpec := { name := "fnDecimalRoads", vars := ["loop.example/pub-floatroads/pub/gostrconv.powtab", "loop.example/pub-floatroads/pub/gostrconv.leftcheats"], fn := fun _ => fun
  | [d1, d2, d3, g1, g2] => { results := [.lit (.bool true)], args := [d1, d2, d3], vars := [g1, g2] }
  | _ => none }
def fnDecimalRoadsRow : OpenClaim := { program := "ytfndpecffhempaadoor", sum := "1ef2cade253fb3dc90c4c0f9ffb768e4c48ed9276bbc095aaac9707785297032", func := "loop.example/pub-floatroads/laws.FnDecimalRoads", spec := "fnDecimalRoads", recurses := true, named := ["loop.example/pub-floatroads/pub/gostrconv.powtab", "loop.example/pub-floatroads/pub/gostrconv.leftcheats"], apart := false, laid := [("loop.example/pub-floatroads/pub/gostrconv.powtab", laid_loop_example_pub_floatroads_pub_gostrconv_powtab), ("loop.example/pub-floatroads/pub/gostrconv.leftcheats", laid_loop_example_pub_floatroads_pub_gostrconv_leftcheats)] }
def FnDecimalRoadsSaid : Prop := fnDecimalRoadsRow.holds Tryd.pinned (OpenSpec.ofChange fnDecimalRoadsSpec)

/-- ITS FALSE NEIGHBOUR: 'it returns false'. Refute it at one input. -/
def fnDecimalRoadsWrong : ChangeSpec := { name := "fnDecimalRoads", vars := ["loop.example/pub-floatroads/pub/gostrconv.powtab", "loop.example/pub-floatroads/pub/gostrconv.leftcheats"], fn := fun _ => fun
  | [d1, d2, d3, g1, g2] => { results := [.lit (.bool false)], args := [d1, d2, d3], vars := [g1, g2] }
  | _ => none }
def FnDecimalRoadsWrongFalsely : Prop := fnDecimalRoadsRow.holds Tryd.pinned (OpenSpec.ofChange fnDecimalRoadsWrong)

/- THE SECOND FORM. 'bulk': how many values and letters a reading holds, each counted each time it is reached (what is shared counts as often as it is met; a slice's spare places count too). A statement '..UptoSaid' is the law's where the arguments, and the package variables that the reading takes, are together of bulk at most 1048576: NARROWER than '..Said'. Prove '..Said' where nothing that the law and all that it calls make is longer than what came in: it says more and counts as full. Else prove '..UptoSaid'. A law counts once. -/
mutual
def uptoBulk {H : Type} : DataW H → Nat
  | .lit (.string bytes) => bytes.length + 1
  | .lit _ => 1
  | .nil => 1
  | .ptr d => uptoBulk d + 1
  | .slice elems spare => uptoBulkAll elems + uptoBulkAll spare + 1
  | .agg parts => uptoBulkAll parts + 1
  | .iface _ d => uptoBulk d + 1
  | .map entries => uptoBulkEntries entries + 1
  | .held _ => 1
def uptoBulkAll {H : Type} : List (DataW H) → Nat
  | [] => 0
  | d :: r => uptoBulk d + uptoBulkAll r
def uptoBulkEntries {H : Type} : List (Lit × DataW H) → Nat
  | [] => 0
  | x :: r => uptoBulkEntry x + uptoBulkEntries r
def uptoBulkEntry {H : Type} : Lit × DataW H → Nat
  | (.string bytes, d) => bytes.length + uptoBulk d + 1
  | (_, d) => uptoBulk d + 1
 end
def uptoSmall : (H : Type) → List (DataW H) → Bool := fun _ ds => decide (uptoBulkAll ds ≤ 1048576)
def OpenSpec.upto (s : _root_.Go.ChangeSpec) : _root_.Go.OpenSpec := { _root_.Go.OpenSpec.ofChange s with cond := some uptoSmall }

/-- 'laws.FnExactShift', WHERE WHAT IT READS IS OF BULK AT MOST 1048576: true; the input reads as it did. -/
def fnExactShiftUptoRow : OpenClaim := { program := "ytfndpecffhempaadoor", sum := "1ef2cade253fb3dc90c4c0f9ffb768e4c48ed9276bbc095aaac9707785297032", func := "loop.example/pub-floatroads/laws.FnExactShift", spec := "fnExactShift", named := ["loop.example/pub-floatroads/pub/gostrconv.leftcheats"], apart := false, laid := [("loop.example/pub-floatroads/pub/gostrconv.leftcheats", laid_loop_example_pub_floatroads_pub_gostrconv_leftcheats)], narrowed := true }
def FnExactShiftUptoSaid : Prop := fnExactShiftUptoRow.holds Tryd.pinned (OpenSpec.upto fnExactShiftSpec)

/-- 'laws.FnShiftBack', WHERE WHAT IT READS IS OF BULK AT MOST 1048576: true; the input reads as it did. -/
def fnShiftBackUptoRow : OpenClaim := { program := "ytfndpecffhempaadoor", sum := "1ef2cade253fb3dc90c4c0f9ffb768e4c48ed9276bbc095aaac9707785297032", func := "loop.example/pub-floatroads/laws.FnShiftBack", spec := "fnShiftBack", named := ["loop.example/pub-floatroads/pub/gostrconv.leftcheats"], apart := false, laid := [("loop.example/pub-floatroads/pub/gostrconv.leftcheats", laid_loop_example_pub_floatroads_pub_gostrconv_leftcheats)], narrowed := true }
def FnShiftBackUptoSaid : Prop := fnShiftBackUptoRow.holds Tryd.pinned (OpenSpec.upto fnShiftBackSpec)

/-- 'laws.FnShiftSum', WHERE WHAT IT READS IS OF BULK AT MOST 1048576: true; the input reads as it did. -/
def fnShiftSumUptoRow : OpenClaim := { program := "ytfndpecffhempaadoor", sum := "1ef2cade253fb3dc90c4c0f9ffb768e4c48ed9276bbc095aaac9707785297032", func := "loop.example/pub-floatroads/laws.FnShiftSum", spec := "fnShiftSum", named := ["loop.example/pub-floatroads/pub/gostrconv.leftcheats"], apart := false, laid := [("loop.example/pub-floatroads/pub/gostrconv.leftcheats", laid_loop_example_pub_floatroads_pub_gostrconv_leftcheats)], narrowed := true }
def FnShiftSumUptoSaid : Prop := fnShiftSumUptoRow.holds Tryd.pinned (OpenSpec.upto fnShiftSumSpec)

/-- 'laws.FnExactFloatBits', WHERE WHAT IT READS IS OF BULK AT MOST 1048576: true; the input reads as it did. -/
def fnExactFloatBitsUptoRow : OpenClaim := { program := "ytfndpecffhempaadoor", sum := "1ef2cade253fb3dc90c4c0f9ffb768e4c48ed9276bbc095aaac9707785297032", func := "loop.example/pub-floatroads/laws.FnExactFloatBits", spec := "fnExactFloatBits", named := ["loop.example/pub-floatroads/pub/gostrconv.powtab", "loop.example/pub-floatroads/pub/gostrconv.leftcheats"], apart := false, laid := [("loop.example/pub-floatroads/pub/gostrconv.powtab", laid_loop_example_pub_floatroads_pub_gostrconv_powtab), ("loop.example/pub-floatroads/pub/gostrconv.leftcheats", laid_loop_example_pub_floatroads_pub_gostrconv_leftcheats)], narrowed := true }
def FnExactFloatBitsUptoSaid : Prop := fnExactFloatBitsUptoRow.holds Tryd.pinned (OpenSpec.upto fnExactFloatBitsSpec)

/-- 'laws.FnExactSlow32', WHERE WHAT IT READS IS OF BULK AT MOST 1048576: true; the input reads as it did. -/
def fnExactSlow32UptoRow : OpenClaim := { program := "ytfndpecffhempaadoor", sum := "1ef2cade253fb3dc90c4c0f9ffb768e4c48ed9276bbc095aaac9707785297032", func := "loop.example/pub-floatroads/laws.FnExactSlow32", spec := "fnExactSlow32", recurses := true, named := ["loop.example/pub-floatroads/pub/gostrconv.powtab", "loop.example/pub-floatroads/pub/gostrconv.leftcheats"], apart := false, laid := [("loop.example/pub-floatroads/pub/gostrconv.powtab", laid_loop_example_pub_floatroads_pub_gostrconv_powtab), ("loop.example/pub-floatroads/pub/gostrconv.leftcheats", laid_loop_example_pub_floatroads_pub_gostrconv_leftcheats)], narrowed := true }
def FnExactSlow32UptoSaid : Prop := fnExactSlow32UptoRow.holds Tryd.pinned (OpenSpec.upto fnExactSlow32Spec)

/-- 'laws.FnExactSlow64', WHERE WHAT IT READS IS OF BULK AT MOST 1048576: true; the input reads as it did. -/
def fnExactSlow64UptoRow : OpenClaim := { program := "ytfndpecffhempaadoor", sum := "1ef2cade253fb3dc90c4c0f9ffb768e4c48ed9276bbc095aaac9707785297032", func := "loop.example/pub-floatroads/laws.FnExactSlow64", spec := "fnExactSlow64", recurses := true, named := ["loop.example/pub-floatroads/pub/gostrconv.powtab", "loop.example/pub-floatroads/pub/gostrconv.leftcheats"], apart := false, laid := [("loop.example/pub-floatroads/pub/gostrconv.powtab", laid_loop_example_pub_floatroads_pub_gostrconv_powtab), ("loop.example/pub-floatroads/pub/gostrconv.leftcheats", laid_loop_example_pub_floatroads_pub_gostrconv_leftcheats)], narrowed := true }
def FnExactSlow64UptoSaid : Prop := fnExactSlow64UptoRow.holds Tryd.pinned (OpenSpec.upto fnExactSlow64Spec)

/-- 'laws.FnDecimalRoads', WHERE WHAT IT READS IS OF BULK AT MOST 1048576: true; the input reads as it did. -/
def fnDecimalRoadsUptoRow : OpenClaim := { program := "ytfndpecffhempaadoor", sum := "1ef2cade253fb3dc90c4c0f9ffb768e4c48ed9276bbc095aaac9707785297032", func := "loop.example/pub-floatroads/laws.FnDecimalRoads", spec := "fnDecimalRoads", recurses := true, named := ["loop.example/pub-floatroads/pub/gostrconv.powtab", "loop.example/pub-floatroads/pub/gostrconv.leftcheats"], apart := false, laid := [("loop.example/pub-floatroads/pub/gostrconv.powtab", laid_loop_example_pub_floatroads_pub_gostrconv_powtab), ("loop.example/pub-floatroads/pub/gostrconv.leftcheats", laid_loop_example_pub_floatroads_pub_gostrconv_leftcheats)], narrowed := true }
def FnDecimalRoadsUptoSaid : Prop := fnDecimalRoadsUptoRow.holds Tryd.pinned (OpenSpec.upto fnDecimalRoadsSpec)

end Rows
end Go.Proofs.YtfndpecffhempaaDoor
