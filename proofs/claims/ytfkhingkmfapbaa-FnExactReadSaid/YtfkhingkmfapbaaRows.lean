/-
  No cell of these rows narrows 'for every input' (looked for: loops, veiled, ifaces, maps, wideKeys, modest, calm, conditions, laid).
  DERIVED. THE GIVEN ROWS OF THIS SEAT. 8 by the template 'for every input the law returns true; each argument reads behind the call as it read before'; 0 by the template 'total and deterministic' (their statements: YtfkhingkmfapbaaTotals.lean).
  GIVEN WITH THE SEED: the statements are not yours to turn. If you find one false, say at which input.
  Laid BY PROGRAM, IN A SANDBOX (cutbox-rows.mjs): the forced cells as the released guide's own fill.sh prints them over the translation 51ad103b952c6401… (all of the seat's roots in one cut). By AI agents, Wed Nov 11 2026. No macro, syntax, notation, axiom, sorry.
-/
import Derived.Test.YtfkhingkmfapbaaChecked
import GoSem.Claim
import GoSem.ClaimJoined
import GoSem.ClaimMapViews
import Derived.JoinedTies
import Derived.KernelRfl
namespace Go.Proofs.Ytfkhingkmfapbaa
/- THE CELL 'sum', in the pinned program and in every row, IS THE sha256 OF THE DUMP (.gsa) THAT YtfkhingkmfapbaaProg.lean LOADS. Nothing in Lean hashes anything: it is a label: what it is worth is what the hold of that sum in a sandbox is worth. -/
noncomputable def Try.pinned : Pinned := { name := "ytfkhingkmfapbaa", sum := "51ad103b952c64014ef2c8e5ba7818bc47a8f98ec11746b0322d6efb232bf869", checked := Try.checked }
namespace Rows
def none {H : Type} : Left H := { results := [], args := [] }

/-- 'laws.FnExactRoundDecimalDown': WHATEVER THE INPUT: true; the input reads as it did. -/
def fnExactRoundDecimalDownSpec : ChangeSpec := { name := "fnExactRoundDecimalDown", fn := fun _ => fun
  | [d1, d2, d3, d4] => { results := [.lit (.bool true)], args := [d1, d2, d3, d4] }
  | _ => none }
def fnExactRoundDecimalDownRow : OpenClaim := { program := "ytfkhingkmfapbaa", sum := "51ad103b952c64014ef2c8e5ba7818bc47a8f98ec11746b0322d6efb232bf869", func := "loop.example/pub-floatroads/laws.FnExactRoundDecimalDown", spec := "fnExactRoundDecimalDown", apart := false }
def FnExactRoundDecimalDownSaid : Prop := fnExactRoundDecimalDownRow.holds Try.pinned (OpenSpec.ofChange fnExactRoundDecimalDownSpec)

/-- ITS FALSE NEIGHBOUR: 'it returns false'. Refute it at one input. -/
def fnExactRoundDecimalDownWrong : ChangeSpec := { name := "fnExactRoundDecimalDown", fn := fun _ => fun
  | [d1, d2, d3, d4] => { results := [.lit (.bool false)], args := [d1, d2, d3, d4] }
  | _ => none }
def FnExactRoundDecimalDownWrongFalsely : Prop := fnExactRoundDecimalDownRow.holds Try.pinned (OpenSpec.ofChange fnExactRoundDecimalDownWrong)

/-- 'laws.FnExactRoundDecimalUp': WHATEVER THE INPUT: true; the input reads as it did. -/
def fnExactRoundDecimalUpSpec : ChangeSpec := { name := "fnExactRoundDecimalUp", fn := fun _ => fun
  | [d1, d2, d3, d4] => { results := [.lit (.bool true)], args := [d1, d2, d3, d4] }
  | _ => none }
def fnExactRoundDecimalUpRow : OpenClaim := { program := "ytfkhingkmfapbaa", sum := "51ad103b952c64014ef2c8e5ba7818bc47a8f98ec11746b0322d6efb232bf869", func := "loop.example/pub-floatroads/laws.FnExactRoundDecimalUp", spec := "fnExactRoundDecimalUp", apart := false }
def FnExactRoundDecimalUpSaid : Prop := fnExactRoundDecimalUpRow.holds Try.pinned (OpenSpec.ofChange fnExactRoundDecimalUpSpec)

/-- ITS FALSE NEIGHBOUR: 'it returns false'. Refute it at one input. -/
def fnExactRoundDecimalUpWrong : ChangeSpec := { name := "fnExactRoundDecimalUp", fn := fun _ => fun
  | [d1, d2, d3, d4] => { results := [.lit (.bool false)], args := [d1, d2, d3, d4] }
  | _ => none }
def FnExactRoundDecimalUpWrongFalsely : Prop := fnExactRoundDecimalUpRow.holds Try.pinned (OpenSpec.ofChange fnExactRoundDecimalUpWrong)

/-- 'laws.FnExactRoundDecimal': WHATEVER THE INPUT: true; the input reads as it did. -/
def fnExactRoundDecimalSpec : ChangeSpec := { name := "fnExactRoundDecimal", fn := fun _ => fun
  | [d1, d2, d3, d4] => { results := [.lit (.bool true)], args := [d1, d2, d3, d4] }
  | _ => none }
def fnExactRoundDecimalRow : OpenClaim := { program := "ytfkhingkmfapbaa", sum := "51ad103b952c64014ef2c8e5ba7818bc47a8f98ec11746b0322d6efb232bf869", func := "loop.example/pub-floatroads/laws.FnExactRoundDecimal", spec := "fnExactRoundDecimal", apart := false }
def FnExactRoundDecimalSaid : Prop := fnExactRoundDecimalRow.holds Try.pinned (OpenSpec.ofChange fnExactRoundDecimalSpec)

/-- ITS FALSE NEIGHBOUR: 'it returns false'. Refute it at one input. -/
def fnExactRoundDecimalWrong : ChangeSpec := { name := "fnExactRoundDecimal", fn := fun _ => fun
  | [d1, d2, d3, d4] => { results := [.lit (.bool false)], args := [d1, d2, d3, d4] }
  | _ => none }
def FnExactRoundDecimalWrongFalsely : Prop := fnExactRoundDecimalRow.holds Try.pinned (OpenSpec.ofChange fnExactRoundDecimalWrong)

/-- 'laws.FnExactRoundedInteger': WHATEVER THE INPUT: true; the input reads as it did. -/
def fnExactRoundedIntegerSpec : ChangeSpec := { name := "fnExactRoundedInteger", fn := fun _ => fun
  | [d1, d2, d3] => { results := [.lit (.bool true)], args := [d1, d2, d3] }
  | _ => none }
def fnExactRoundedIntegerRow : OpenClaim := { program := "ytfkhingkmfapbaa", sum := "51ad103b952c64014ef2c8e5ba7818bc47a8f98ec11746b0322d6efb232bf869", func := "loop.example/pub-floatroads/laws.FnExactRoundedInteger", spec := "fnExactRoundedInteger", apart := false }
def FnExactRoundedIntegerSaid : Prop := fnExactRoundedIntegerRow.holds Try.pinned (OpenSpec.ofChange fnExactRoundedIntegerSpec)

/-- ITS FALSE NEIGHBOUR: 'it returns false'. Refute it at one input. -/
def fnExactRoundedIntegerWrong : ChangeSpec := { name := "fnExactRoundedInteger", fn := fun _ => fun
  | [d1, d2, d3] => { results := [.lit (.bool false)], args := [d1, d2, d3] }
  | _ => none }
def FnExactRoundedIntegerWrongFalsely : Prop := fnExactRoundedIntegerRow.holds Try.pinned (OpenSpec.ofChange fnExactRoundedIntegerWrong)

/-- 'laws.FnExactParseDecimal': WHATEVER THE INPUT: true; the input reads as it did. -/
def fnExactParseDecimalSpec : ChangeSpec := { name := "fnExactParseDecimal", fn := fun _ => fun
  | [d1, d2, d3, d4] => { results := [.lit (.bool true)], args := [d1, d2, d3, d4] }
  | _ => none }
def fnExactParseDecimalRow : OpenClaim := { program := "ytfkhingkmfapbaa", sum := "51ad103b952c64014ef2c8e5ba7818bc47a8f98ec11746b0322d6efb232bf869", func := "loop.example/pub-floatroads/laws.FnExactParseDecimal", spec := "fnExactParseDecimal", recurses := true, apart := false }
def FnExactParseDecimalSaid : Prop := fnExactParseDecimalRow.holds Try.pinned (OpenSpec.ofChange fnExactParseDecimalSpec)

/-- ITS FALSE NEIGHBOUR: 'it returns false'. Refute it at one input. -/
def fnExactParseDecimalWrong : ChangeSpec := { name := "fnExactParseDecimal", fn := fun _ => fun
  | [d1, d2, d3, d4] => { results := [.lit (.bool false)], args := [d1, d2, d3, d4] }
  | _ => none }
def FnExactParseDecimalWrongFalsely : Prop := fnExactParseDecimalRow.holds Try.pinned (OpenSpec.ofChange fnExactParseDecimalWrong)

/-- 'laws.FnExactRead': WHATEVER THE INPUT: true; the input reads as it did. -/
def fnExactReadSpec : ChangeSpec := { name := "fnExactRead", fn := fun _ => fun
  | [d1, d2, d3, d4] => { results := [.lit (.bool true)], args := [d1, d2, d3, d4] }
  | _ => none }
def fnExactReadRow : OpenClaim := { program := "ytfkhingkmfapbaa", sum := "51ad103b952c64014ef2c8e5ba7818bc47a8f98ec11746b0322d6efb232bf869", func := "loop.example/pub-floatroads/laws.FnExactRead", spec := "fnExactRead", recurses := true, apart := false }
def FnExactReadSaid : Prop := fnExactReadRow.holds Try.pinned (OpenSpec.ofChange fnExactReadSpec)

/-- ITS FALSE NEIGHBOUR: 'it returns false'. Refute it at one input. -/
def fnExactReadWrong : ChangeSpec := { name := "fnExactRead", fn := fun _ => fun
  | [d1, d2, d3, d4] => { results := [.lit (.bool false)], args := [d1, d2, d3, d4] }
  | _ => none }
def FnExactReadWrongFalsely : Prop := fnExactReadRow.holds Try.pinned (OpenSpec.ofChange fnExactReadWrong)

/-- 'laws.FnExactExact32': WHATEVER THE INPUT: true; the input reads as it did. -/
def fnExactExact32Spec : ChangeSpec := { name := "fnExactExact32", fn := fun _ => fun
  | [d1, d2, d3] => { results := [.lit (.bool true)], args := [d1, d2, d3] }
  | _ => none }
def fnExactExact32Row : OpenClaim := { program := "ytfkhingkmfapbaa", sum := "51ad103b952c64014ef2c8e5ba7818bc47a8f98ec11746b0322d6efb232bf869", func := "loop.example/pub-floatroads/laws.FnExactExact32", spec := "fnExactExact32", inPlace := ["math.Float32bits"], apart := false }
def FnExactExact32Said : Prop := fnExactExact32Row.holds Try.pinned (OpenSpec.ofChange fnExactExact32Spec)

/-- ITS FALSE NEIGHBOUR: 'it returns false'. Refute it at one input. -/
def fnExactExact32Wrong : ChangeSpec := { name := "fnExactExact32", fn := fun _ => fun
  | [d1, d2, d3] => { results := [.lit (.bool false)], args := [d1, d2, d3] }
  | _ => none }
def FnExactExact32WrongFalsely : Prop := fnExactExact32Row.holds Try.pinned (OpenSpec.ofChange fnExactExact32Wrong)

/-- 'laws.FnExactExact64': WHATEVER THE INPUT: true; the input reads as it did. -/
def fnExactExact64Spec : ChangeSpec := { name := "fnExactExact64", fn := fun _ => fun
  | [d1, d2, d3] => { results := [.lit (.bool true)], args := [d1, d2, d3] }
  | _ => none }
def fnExactExact64Row : OpenClaim := { program := "ytfkhingkmfapbaa", sum := "51ad103b952c64014ef2c8e5ba7818bc47a8f98ec11746b0322d6efb232bf869", func := "loop.example/pub-floatroads/laws.FnExactExact64", spec := "fnExactExact64", inPlace := ["math.Float64bits"], apart := false }
def FnExactExact64Said : Prop := fnExactExact64Row.holds Try.pinned (OpenSpec.ofChange fnExactExact64Spec)

/-- ITS FALSE NEIGHBOUR: 'it returns false'. Refute it at one input. -/
def fnExactExact64Wrong : ChangeSpec := { name := "fnExactExact64", fn := fun _ => fun
  | [d1, d2, d3] => { results := [.lit (.bool false)], args := [d1, d2, d3] }
  | _ => none }
def FnExactExact64WrongFalsely : Prop := fnExactExact64Row.holds Try.pinned (OpenSpec.ofChange fnExactExact64Wrong)

/- THE SECOND FORM. 'bulk': how many values and letters a reading holds, each counted each time it is reached (what is shared counts as often as it is met; a slice's spare places count too). A statement '..UptoSaid' is the law's where the arguments, and the package variables that the reading takes, are together of bulk at most 1048576: NARROWER than '..Said'. Prove '..Said' where nothing that the law and all that it calls make is longer than what came in: it says more and counts as full. Else prove '..UptoSaid'. A law counts once. -/
mutual
def uptoBulk {H : Type} : DataW H → Nat
  | .lit (.string bytes) => bytes.length + 1
  | .lit _ => 1
  | .nil => 1
  | .ptr d => uptoBulk d + 1
  | .slice elems spare => uptoBulkAll elems + uptoBulkAll spare + 1
  | .agg parts => uptoBulkAll parts + 1
  | .iface _ d => uptoBulk d + 1
  | .map entries => uptoBulkEntries entries + 1
  | .held _ => 1
def uptoBulkAll {H : Type} : List (DataW H) → Nat
  | [] => 0
  | d :: r => uptoBulk d + uptoBulkAll r
def uptoBulkEntries {H : Type} : List (Lit × DataW H) → Nat
  | [] => 0
  | x :: r => uptoBulkEntry x + uptoBulkEntries r
def uptoBulkEntry {H : Type} : Lit × DataW H → Nat
  | (.string bytes, d) => bytes.length + uptoBulk d + 1
  | (_, d) => uptoBulk d + 1
 end
def uptoSmall : (H : Type) → List (DataW H) → Bool := fun _ ds => decide (uptoBulkAll ds ≤ 1048576)
def OpenSpec.upto (s : _root_.Go.ChangeSpec) : _root_.Go.OpenSpec := { _root_.Go.OpenSpec.ofChange s with cond := some uptoSmall }

/-- 'laws.FnExactRoundDecimalDown', WHERE WHAT IT READS IS OF BULK AT MOST 1048576: true; the input reads as it did. -/
def fnExactRoundDecimalDownUptoRow : OpenClaim := { program := "ytfkhingkmfapbaa", sum := "51ad103b952c64014ef2c8e5ba7818bc47a8f98ec11746b0322d6efb232bf869", func := "loop.example/pub-floatroads/laws.FnExactRoundDecimalDown", spec := "fnExactRoundDecimalDown", apart := false, narrowed := true }
def FnExactRoundDecimalDownUptoSaid : Prop := fnExactRoundDecimalDownUptoRow.holds Try.pinned (OpenSpec.upto fnExactRoundDecimalDownSpec)

/-- 'laws.FnExactRoundDecimalUp', WHERE WHAT IT READS IS OF BULK AT MOST 1048576: true; the input reads as it did. -/
def fnExactRoundDecimalUpUptoRow : OpenClaim := { program := "ytfkhingkmfapbaa", sum := "51ad103b952c64014ef2c8e5ba7818bc47a8f98ec11746b0322d6efb232bf869", func := "loop.example/pub-floatroads/laws.FnExactRoundDecimalUp", spec := "fnExactRoundDecimalUp", apart := false, narrowed := true }
def FnExactRoundDecimalUpUptoSaid : Prop := fnExactRoundDecimalUpUptoRow.holds Try.pinned (OpenSpec.upto fnExactRoundDecimalUpSpec)

/-- 'laws.FnExactRoundDecimal', WHERE WHAT IT READS IS OF BULK AT MOST 1048576: true; the input reads as it did. -/
def fnExactRoundDecimalUptoRow : OpenClaim := { program := "ytfkhingkmfapbaa", sum := "51ad103b952c64014ef2c8e5ba7818bc47a8f98ec11746b0322d6efb232bf869", func := "loop.example/pub-floatroads/laws.FnExactRoundDecimal", spec := "fnExactRoundDecimal", apart := false, narrowed := true }
def FnExactRoundDecimalUptoSaid : Prop := fnExactRoundDecimalUptoRow.holds Try.pinned (OpenSpec.upto fnExactRoundDecimalSpec)

/-- 'laws.FnExactRoundedInteger', WHERE WHAT IT READS IS OF BULK AT MOST 1048576: true; the input reads as it did. -/
def fnExactRoundedIntegerUptoRow : OpenClaim := { program := "ytfkhingkmfapbaa", sum := "51ad103b952c64014ef2c8e5ba7818bc47a8f98ec11746b0322d6efb232bf869", func := "loop.example/pub-floatroads/laws.FnExactRoundedInteger", spec := "fnExactRoundedInteger", apart := false, narrowed := true }
def FnExactRoundedIntegerUptoSaid : Prop := fnExactRoundedIntegerUptoRow.holds Try.pinned (OpenSpec.upto fnExactRoundedIntegerSpec)

/-- 'laws.FnExactParseDecimal', WHERE WHAT IT READS IS OF BULK AT MOST 1048576: true; the input reads as it did. -/
def fnExactParseDecimalUptoRow : OpenClaim := { program := "ytfkhingkmfapbaa", sum := "51ad103b952c64014ef2c8e5ba7818bc47a8f98ec11746b0322d6efb232bf869", func := "loop.example/pub-floatroads/laws.FnExactParseDecimal", spec := "fnExactParseDecimal", recurses := true, apart := false, narrowed := true }
def FnExactParseDecimalUptoSaid : Prop := fnExactParseDecimalUptoRow.holds Try.pinned (OpenSpec.upto fnExactParseDecimalSpec)

/-- 'laws.FnExactRead', WHERE WHAT IT READS IS OF BULK AT MOST 1048576: true; the input reads as it did. -/
def fnExactReadUptoRow : OpenClaim := { program := "ytfkhingkmfapbaa", sum := "51ad103b952c64014ef2c8e5ba7818bc47a8f98ec11746b0322d6efb232bf869", func := "loop.example/pub-floatroads/laws.FnExactRead", spec := "fnExactRead", recurses := true, apart := false, narrowed := true }
def FnExactReadUptoSaid : Prop := fnExactReadUptoRow.holds Try.pinned (OpenSpec.upto fnExactReadSpec)

/-- 'laws.FnExactExact32', WHERE WHAT IT READS IS OF BULK AT MOST 1048576: true; the input reads as it did. -/
def fnExactExact32UptoRow : OpenClaim := { program := "ytfkhingkmfapbaa", sum := "51ad103b952c64014ef2c8e5ba7818bc47a8f98ec11746b0322d6efb232bf869", func := "loop.example/pub-floatroads/laws.FnExactExact32", spec := "fnExactExact32", inPlace := ["math.Float32bits"], apart := false, narrowed := true }
def FnExactExact32UptoSaid : Prop := fnExactExact32UptoRow.holds Try.pinned (OpenSpec.upto fnExactExact32Spec)

/-- 'laws.FnExactExact64', WHERE WHAT IT READS IS OF BULK AT MOST 1048576: true; the input reads as it did. -/
def fnExactExact64UptoRow : OpenClaim := { program := "ytfkhingkmfapbaa", sum := "51ad103b952c64014ef2c8e5ba7818bc47a8f98ec11746b0322d6efb232bf869", func := "loop.example/pub-floatroads/laws.FnExactExact64", spec := "fnExactExact64", inPlace := ["math.Float64bits"], apart := false, narrowed := true }
def FnExactExact64UptoSaid : Prop := fnExactExact64UptoRow.holds Try.pinned (OpenSpec.upto fnExactExact64Spec)

end Rows
end Go.Proofs.Ytfkhingkmfapbaa
