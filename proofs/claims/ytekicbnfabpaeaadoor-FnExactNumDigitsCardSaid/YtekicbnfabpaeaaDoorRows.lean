/-
  NARROWER THAN 'FOR EVERY INPUT', by the rows' own cells (each row's printed sentence says how): FnExactNumDigits: laid.
  DERIVED. THE GIVEN ROWS OF THIS SEAT. 1 by the template 'for every input the law returns true; each argument reads behind the call as it read before'; 0 by the template 'total and deterministic' (their statements: YtekicbnfabpaeaaDoorTotals.lean).
  GIVEN WITH THE SEED: the statements are not yours to turn. If you find one false, say at which input.
  Laid BY PROGRAM, IN A SANDBOX (cutbox-rows.mjs): the forced cells as the released guide's own fill.sh prints them over the translation d7c5ed2eea9a262c… (all of the seat's roots in one cut). By AI agents, Wed Nov 11 2026. No macro, syntax, notation, axiom, sorry.
-/
import Derived.Test.YtekicbnfabpaeaaDoorChecked
import GoSem.Claim
import GoSem.ClaimJoined
import GoSem.ClaimMapViews
import Derived.JoinedTies
import Derived.KernelRfl
namespace Go.Proofs.YtekicbnfabpaeaaDoor
/- THE CELL 'sum', in the pinned program and in every row, IS THE sha256 OF THE DUMP (.gsa) THAT YtekicbnfabpaeaaDoorProg.lean LOADS. Nothing in Lean hashes anything: it is a label: what it is worth is what the hold of that sum in a sandbox is worth. -/
noncomputable def Tryd.pinned : Pinned := { name := "ytekicbnfabpaeaadoor", sum := "d7c5ed2eea9a262c459b0ced5d8c2749fb375951957c6e38db1f7e53724aa116", checked := Tryd.checked }
namespace Rows
def none {H : Type} : Left H := { results := [], args := [] }

/- WHAT THE LISTED PACKAGE-LEVEL VARIABLES READ AS WHEN THE CALL BEGINS. Each datum BY PROGRAM (the guide's laid-datum.mjs) off the statement by which the dump's own 'gosem.cut.vars' lays the variable. In a bare row this is a premise. The card (YtekicbnfabpaeaaDoorCards.lean) ties it to the program's text. -/
def laid_loop_example_pub_floatroads_pub_gostrconv_uint64pow10 {H : Type} : DataW H := .agg [.lit (.int .u64 1), .lit (.int .u64 10), .lit (.int .u64 100), .lit (.int .u64 1000), .lit (.int .u64 10000), .lit (.int .u64 100000), .lit (.int .u64 1000000), .lit (.int .u64 10000000), .lit (.int .u64 100000000), .lit (.int .u64 1000000000), .lit (.int .u64 10000000000), .lit (.int .u64 100000000000), .lit (.int .u64 1000000000000), .lit (.int .u64 10000000000000), .lit (.int .u64 100000000000000), .lit (.int .u64 1000000000000000), .lit (.int .u64 10000000000000000), .lit (.int .u64 100000000000000000), .lit (.int .u64 1000000000000000000), .lit (.int .u64 10000000000000000000)]

/-- 'laws.FnExactNumDigits': WHATEVER THE INPUT: true; the input reads as it did. -/
def fnExactNumDigitsSpec : ChangeSpec := { name := "fnExactNumDigits", vars := ["loop.example/pub-floatroads/pub/gostrconv.uint64pow10"], fn := fun _ => fun
  | [d, g1] => { results := [.lit (.bool true)], args := [d], vars := [g1] }
  | _ => none }
def fnExactNumDigitsRow : OpenClaim := { program := "ytekicbnfabpaeaadoor", sum := "d7c5ed2eea9a262c459b0ced5d8c2749fb375951957c6e38db1f7e53724aa116", func := "loop.example/pub-floatroads/laws.FnExactNumDigits", spec := "fnExactNumDigits", recurses := true, named := ["loop.example/pub-floatroads/pub/gostrconv.uint64pow10"], apart := false, laid := [("loop.example/pub-floatroads/pub/gostrconv.uint64pow10", laid_loop_example_pub_floatroads_pub_gostrconv_uint64pow10)] }
def FnExactNumDigitsSaid : Prop := fnExactNumDigitsRow.holds Tryd.pinned (OpenSpec.ofChange fnExactNumDigitsSpec)

/-- ITS FALSE NEIGHBOUR: 'it returns false'. Refute it at one input. -/
def fnExactNumDigitsWrong : ChangeSpec := { name := "fnExactNumDigits", vars := ["loop.example/pub-floatroads/pub/gostrconv.uint64pow10"], fn := fun _ => fun
  | [d, g1] => { results := [.lit (.bool false)], args := [d], vars := [g1] }
  | _ => none }
def FnExactNumDigitsWrongFalsely : Prop := fnExactNumDigitsRow.holds Tryd.pinned (OpenSpec.ofChange fnExactNumDigitsWrong)

/- THE SECOND FORM. 'bulk': how many values and letters a reading holds, each counted each time it is reached (what is shared counts as often as it is met; a slice's spare places count too). A statement '..UptoSaid' is the law's where the arguments, and the package variables that the reading takes, are together of bulk at most 1048576: NARROWER than '..Said'. Prove '..Said' where nothing that the law and all that it calls make is longer than what came in: it says more and counts as full. Else prove '..UptoSaid'. A law counts once. -/
mutual
def uptoBulk {H : Type} : DataW H → Nat
  | .lit (.string bytes) => bytes.length + 1
  | .lit _ => 1
  | .nil => 1
  | .ptr d => uptoBulk d + 1
  | .slice elems spare => uptoBulkAll elems + uptoBulkAll spare + 1
  | .agg parts => uptoBulkAll parts + 1
  | .iface _ d => uptoBulk d + 1
  | .map entries => uptoBulkEntries entries + 1
  | .held _ => 1
def uptoBulkAll {H : Type} : List (DataW H) → Nat
  | [] => 0
  | d :: r => uptoBulk d + uptoBulkAll r
def uptoBulkEntries {H : Type} : List (Lit × DataW H) → Nat
  | [] => 0
  | x :: r => uptoBulkEntry x + uptoBulkEntries r
def uptoBulkEntry {H : Type} : Lit × DataW H → Nat
  | (.string bytes, d) => bytes.length + uptoBulk d + 1
  | (_, d) => uptoBulk d + 1
 end
def uptoSmall : (H : Type) → List (DataW H) → Bool := fun _ ds => decide (uptoBulkAll ds ≤ 1048576)
def OpenSpec.upto (s : _root_.Go.ChangeSpec) : _root_.Go.OpenSpec := { _root_.Go.OpenSpec.ofChange s with cond := some uptoSmall }

/-- 'laws.FnExactNumDigits', WHERE WHAT IT READS IS OF BULK AT MOST 1048576: true; the input reads as it did. -/
def fnExactNumDigitsUptoRow : OpenClaim := { program := "ytekicbnfabpaeaadoor", sum := "d7c5ed2eea9a262c459b0ced5d8c2749fb375951957c6e38db1f7e53724aa116", func := "loop.example/pub-floatroads/laws.FnExactNumDigits", spec := "fnExactNumDigits", recurses := true, named := ["loop.example/pub-floatroads/pub/gostrconv.uint64pow10"], apart := false, laid := [("loop.example/pub-floatroads/pub/gostrconv.uint64pow10", laid_loop_example_pub_floatroads_pub_gostrconv_uint64pow10)], narrowed := true }
def FnExactNumDigitsUptoSaid : Prop := fnExactNumDigitsUptoRow.holds Tryd.pinned (OpenSpec.upto fnExactNumDigitsSpec)

end Rows
end Go.Proofs.YtekicbnfabpaeaaDoor
