/-
  DERIVED. GIVEN WITH THE SEED: THE CARDS: each row of YtfndpecffhempaaDoorRows.lean that lists a variable, with what it lists TIED to the program's text (the seventh form; the later family's looks); each row that meets fmt, with fmt's text TOLD by the authors' own Lean function (tested against real Go, not proved from fmt's source: count such statements apart). THE CARD IS WHAT COUNTS. Prove the row's statement (the work); the ties are given (YtfndpecffhempaaDoorTie.lean); close each card by the builder's one call (the guide's Derived/Test/ToyasCard.lean, 'card_holds'). Laid BY PROGRAM, IN A SANDBOX (cutbox-door.mjs). By AI agents, Wed Nov 11 2026. No macro, syntax, notation, axiom, sorry.
-/
import Derived.Test.YtfndpecffhempaaDoorRows
import GoSem.ClaimSeven
namespace Go.Proofs.YtfndpecffhempaaDoor
namespace Rows

/-- THE TIED CARD OF 'laws.FnExactShift'. -/
def fnExactShiftCard : Claim7 := { stood := { row := fnExactShiftRow, standIns := [], harness := (true, "2703d3798f3f825447264fcfe9e3eb8eaeb60cd6bb338018fe195cbc03aa7324"), looks := false }, kinds := [], alts := [], laidByText := true, laidKinds := [.data], laidTests := true, laidLooks := .later }
def FnExactShiftCardSaid : Prop := Claim7.holds Tryd.pinned (.plain (OpenSpec.ofChange fnExactShiftSpec)) fnExactShiftCard

/-- THE TIED CARD OF 'laws.FnShiftBack'. -/
def fnShiftBackCard : Claim7 := { stood := { row := fnShiftBackRow, standIns := [], harness := (true, "2703d3798f3f825447264fcfe9e3eb8eaeb60cd6bb338018fe195cbc03aa7324"), looks := false }, kinds := [], alts := [], laidByText := true, laidKinds := [.data], laidTests := true, laidLooks := .later }
def FnShiftBackCardSaid : Prop := Claim7.holds Tryd.pinned (.plain (OpenSpec.ofChange fnShiftBackSpec)) fnShiftBackCard

/-- THE TIED CARD OF 'laws.FnShiftSum'. -/
def fnShiftSumCard : Claim7 := { stood := { row := fnShiftSumRow, standIns := [], harness := (true, "2703d3798f3f825447264fcfe9e3eb8eaeb60cd6bb338018fe195cbc03aa7324"), looks := false }, kinds := [], alts := [], laidByText := true, laidKinds := [.data], laidTests := true, laidLooks := .later }
def FnShiftSumCardSaid : Prop := Claim7.holds Tryd.pinned (.plain (OpenSpec.ofChange fnShiftSumSpec)) fnShiftSumCard

/-- THE TIED CARD OF 'laws.FnExactFloatBits'. -/
def fnExactFloatBitsCard : Claim7 := { stood := { row := fnExactFloatBitsRow, standIns := [], harness := (true, "2703d3798f3f825447264fcfe9e3eb8eaeb60cd6bb338018fe195cbc03aa7324"), looks := false }, kinds := [], alts := [], laidByText := true, laidKinds := [.data, .data], laidTests := true, laidLooks := .later }
def FnExactFloatBitsCardSaid : Prop := Claim7.holds Tryd.pinned (.plain (OpenSpec.ofChange fnExactFloatBitsSpec)) fnExactFloatBitsCard

/-- THE TIED CARD OF 'laws.FnExactSlow32'. -/
def fnExactSlow32Card : Claim7 := { stood := { row := fnExactSlow32Row, standIns := [], harness := (true, "2703d3798f3f825447264fcfe9e3eb8eaeb60cd6bb338018fe195cbc03aa7324"), looks := false }, kinds := [], alts := [], laidByText := true, laidKinds := [.data, .data], laidTests := true, laidLooks := .later }
def FnExactSlow32CardSaid : Prop := Claim7.holds Tryd.pinned (.plain (OpenSpec.ofChange fnExactSlow32Spec)) fnExactSlow32Card

/-- THE TIED CARD OF 'laws.FnExactSlow64'. -/
def fnExactSlow64Card : Claim7 := { stood := { row := fnExactSlow64Row, standIns := [], harness := (true, "2703d3798f3f825447264fcfe9e3eb8eaeb60cd6bb338018fe195cbc03aa7324"), looks := false }, kinds := [], alts := [], laidByText := true, laidKinds := [.data, .data], laidTests := true, laidLooks := .later }
def FnExactSlow64CardSaid : Prop := Claim7.holds Tryd.pinned (.plain (OpenSpec.ofChange fnExactSlow64Spec)) fnExactSlow64Card

/-- THE TIED CARD OF 'laws.FnDecimalRoads'. -/
def fnDecimalRoadsCard : Claim7 := { stood := { row := fnDecimalRoadsRow, standIns := [], harness := (true, "2703d3798f3f825447264fcfe9e3eb8eaeb60cd6bb338018fe195cbc03aa7324"), looks := false }, kinds := [], alts := [], laidByText := true, laidKinds := [.data, .data], laidTests := true, laidLooks := .later }
def FnDecimalRoadsCardSaid : Prop := Claim7.holds Tryd.pinned (.plain (OpenSpec.ofChange fnDecimalRoadsSpec)) fnDecimalRoadsCard

/-- THE SECOND FORM's CARD OF 'laws.FnExactShift'. -/
def fnExactShiftUptoCard : Claim7 := { stood := { row := fnExactShiftUptoRow, standIns := [], harness := (true, "2703d3798f3f825447264fcfe9e3eb8eaeb60cd6bb338018fe195cbc03aa7324"), looks := false }, kinds := [], alts := [], laidByText := true, laidKinds := [.data], laidTests := true, laidLooks := .later }
def FnExactShiftUptoCardSaid : Prop := Claim7.holds Tryd.pinned (.plain (OpenSpec.upto fnExactShiftSpec)) fnExactShiftUptoCard

/-- THE SECOND FORM's CARD OF 'laws.FnShiftBack'. -/
def fnShiftBackUptoCard : Claim7 := { stood := { row := fnShiftBackUptoRow, standIns := [], harness := (true, "2703d3798f3f825447264fcfe9e3eb8eaeb60cd6bb338018fe195cbc03aa7324"), looks := false }, kinds := [], alts := [], laidByText := true, laidKinds := [.data], laidTests := true, laidLooks := .later }
def FnShiftBackUptoCardSaid : Prop := Claim7.holds Tryd.pinned (.plain (OpenSpec.upto fnShiftBackSpec)) fnShiftBackUptoCard

/-- THE SECOND FORM's CARD OF 'laws.FnShiftSum'. -/
def fnShiftSumUptoCard : Claim7 := { stood := { row := fnShiftSumUptoRow, standIns := [], harness := (true, "2703d3798f3f825447264fcfe9e3eb8eaeb60cd6bb338018fe195cbc03aa7324"), looks := false }, kinds := [], alts := [], laidByText := true, laidKinds := [.data], laidTests := true, laidLooks := .later }
def FnShiftSumUptoCardSaid : Prop := Claim7.holds Tryd.pinned (.plain (OpenSpec.upto fnShiftSumSpec)) fnShiftSumUptoCard

/-- THE SECOND FORM's CARD OF 'laws.FnExactFloatBits'. -/
def fnExactFloatBitsUptoCard : Claim7 := { stood := { row := fnExactFloatBitsUptoRow, standIns := [], harness := (true, "2703d3798f3f825447264fcfe9e3eb8eaeb60cd6bb338018fe195cbc03aa7324"), looks := false }, kinds := [], alts := [], laidByText := true, laidKinds := [.data, .data], laidTests := true, laidLooks := .later }
def FnExactFloatBitsUptoCardSaid : Prop := Claim7.holds Tryd.pinned (.plain (OpenSpec.upto fnExactFloatBitsSpec)) fnExactFloatBitsUptoCard

/-- THE SECOND FORM's CARD OF 'laws.FnExactSlow32'. -/
def fnExactSlow32UptoCard : Claim7 := { stood := { row := fnExactSlow32UptoRow, standIns := [], harness := (true, "2703d3798f3f825447264fcfe9e3eb8eaeb60cd6bb338018fe195cbc03aa7324"), looks := false }, kinds := [], alts := [], laidByText := true, laidKinds := [.data, .data], laidTests := true, laidLooks := .later }
def FnExactSlow32UptoCardSaid : Prop := Claim7.holds Tryd.pinned (.plain (OpenSpec.upto fnExactSlow32Spec)) fnExactSlow32UptoCard

/-- THE SECOND FORM's CARD OF 'laws.FnExactSlow64'. -/
def fnExactSlow64UptoCard : Claim7 := { stood := { row := fnExactSlow64UptoRow, standIns := [], harness := (true, "2703d3798f3f825447264fcfe9e3eb8eaeb60cd6bb338018fe195cbc03aa7324"), looks := false }, kinds := [], alts := [], laidByText := true, laidKinds := [.data, .data], laidTests := true, laidLooks := .later }
def FnExactSlow64UptoCardSaid : Prop := Claim7.holds Tryd.pinned (.plain (OpenSpec.upto fnExactSlow64Spec)) fnExactSlow64UptoCard

/-- THE SECOND FORM's CARD OF 'laws.FnDecimalRoads'. -/
def fnDecimalRoadsUptoCard : Claim7 := { stood := { row := fnDecimalRoadsUptoRow, standIns := [], harness := (true, "2703d3798f3f825447264fcfe9e3eb8eaeb60cd6bb338018fe195cbc03aa7324"), looks := false }, kinds := [], alts := [], laidByText := true, laidKinds := [.data, .data], laidTests := true, laidLooks := .later }
def FnDecimalRoadsUptoCardSaid : Prop := Claim7.holds Tryd.pinned (.plain (OpenSpec.upto fnDecimalRoadsSpec)) fnDecimalRoadsUptoCard
end Rows
end Go.Proofs.YtfndpecffhempaaDoor
