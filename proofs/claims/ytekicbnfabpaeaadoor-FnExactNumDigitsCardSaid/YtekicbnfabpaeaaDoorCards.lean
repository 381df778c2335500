/-
  DERIVED. GIVEN WITH THE SEED: THE CARDS: each row of YtekicbnfabpaeaaDoorRows.lean that lists a variable, with what it lists TIED to the program's text (the seventh form; the later family's looks); each row that meets fmt, with fmt's text TOLD by the authors' own Lean function (tested against real Go, not proved from fmt's source: count such statements apart). THE CARD IS WHAT COUNTS. Prove the row's statement (the work); the ties are given (YtekicbnfabpaeaaDoorTie.lean); close each card by the builder's one call (the guide's Derived/Test/ToyasCard.lean, 'card_holds'). Laid BY PROGRAM, IN A SANDBOX (cutbox-door.mjs). By AI agents, Wed Nov 11 2026. No macro, syntax, notation, axiom, sorry.
-/
import Derived.Test.YtekicbnfabpaeaaDoorRows
import GoSem.ClaimSeven
namespace Go.Proofs.YtekicbnfabpaeaaDoor
namespace Rows

/-- THE TIED CARD OF 'laws.FnExactNumDigits'. -/
def fnExactNumDigitsCard : Claim7 := { stood := { row := fnExactNumDigitsRow, standIns := [], harness := (true, "28a00130de9abaad6d4c03bd632e031cfb3cc39ae939a3d86ed8fb4292f5e0b3"), looks := false }, kinds := [], alts := [], laidByText := true, laidKinds := [.data], laidTests := true, laidLooks := .later }
def FnExactNumDigitsCardSaid : Prop := Claim7.holds Tryd.pinned (.plain (OpenSpec.ofChange fnExactNumDigitsSpec)) fnExactNumDigitsCard

/-- THE SECOND FORM's CARD OF 'laws.FnExactNumDigits'. -/
def fnExactNumDigitsUptoCard : Claim7 := { stood := { row := fnExactNumDigitsUptoRow, standIns := [], harness := (true, "28a00130de9abaad6d4c03bd632e031cfb3cc39ae939a3d86ed8fb4292f5e0b3"), looks := false }, kinds := [], alts := [], laidByText := true, laidKinds := [.data], laidTests := true, laidLooks := .later }
def FnExactNumDigitsUptoCardSaid : Prop := Claim7.holds Tryd.pinned (.plain (OpenSpec.upto fnExactNumDigitsSpec)) fnExactNumDigitsUptoCard
end Rows
end Go.Proofs.YtekicbnfabpaeaaDoor
