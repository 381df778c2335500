/-
  DERIVED. GIVEN WITH THE SEED: THE PROGRAM's TIES (one call each: nine closed facts by the kernel) AND EACH ROW's TIE, after the 31st guide's Derived/Test/Toyas{Tie, Card}.lean. No idea stands in it: it is a product of the set-up. Laid BY PROGRAM, IN A SANDBOX (cutbox-door.mjs). By AI agents, Wed Nov 11 2026. No macro, syntax, notation, axiom, sorry.
-/
import Derived.Test.YtfndpecffhempaaDoorRows
import Derived.LaidByTextLater
import Derived.SevenTiedAt
import Derived.LaidSub
import Derived.LaidOnce
namespace Go.Proofs.YtfndpecffhempaaDoor
open Go
set_option maxRecDepth 100000
theorem seatTie1 : Tryd.prog.laidByTextLater [("loop.example/pub-floatroads/pub/gostrconv.leftcheats", Rows.laid_loop_example_pub_floatroads_pub_gostrconv_leftcheats)] [.data] true :=
  Program.laidByTextLater_by_one 80 8 123 (by kernel_rfl) (by kernel_rfl) (by kernel_rfl) (by kernel_rfl) (by kernel_rfl) (by kernel_rfl) (fun _ _ => by kernel_rfl)
theorem seatTie2 : Tryd.prog.laidByTextLater [("loop.example/pub-floatroads/pub/gostrconv.powtab", Rows.laid_loop_example_pub_floatroads_pub_gostrconv_powtab), ("loop.example/pub-floatroads/pub/gostrconv.leftcheats", Rows.laid_loop_example_pub_floatroads_pub_gostrconv_leftcheats)] [.data, .data] true :=
  Program.laidByTextLater_by_one 80 8 123 (by kernel_rfl) (by kernel_rfl) (by kernel_rfl) (by kernel_rfl) (by kernel_rfl) (by kernel_rfl) (fun _ _ => by kernel_rfl)
theorem noOwnUnsafe : Tryd.pinned.checked.prog.headLifts.contains "ownunsafe" = false := by kernel_rfl
theorem tie : Tryd.prog.laidByTextLater [("loop.example/pub-floatroads/pub/gostrconv.leftcheats", Rows.laid_loop_example_pub_floatroads_pub_gostrconv_leftcheats)] [.data] true :=
  Program.laidByTextLater.sub seatTie1 ["loop.example/pub-floatroads/pub/gostrconv.leftcheats"] (by kernel_rfl) (by kernel_rfl)
theorem fnExactShift_row_tie : Rows.fnExactShiftRow.laidByTextAt .later Tryd.pinned [.data] true :=
  OpenClaim.laidByTextAt_later rfl rfl tie noOwnUnsafe
theorem fnShiftBack_row_tie : Rows.fnShiftBackRow.laidByTextAt .later Tryd.pinned [.data] true :=
  OpenClaim.laidByTextAt_later rfl rfl tie noOwnUnsafe
theorem fnShiftSum_row_tie : Rows.fnShiftSumRow.laidByTextAt .later Tryd.pinned [.data] true :=
  OpenClaim.laidByTextAt_later rfl rfl tie noOwnUnsafe
theorem tie2 : Tryd.prog.laidByTextLater [("loop.example/pub-floatroads/pub/gostrconv.powtab", Rows.laid_loop_example_pub_floatroads_pub_gostrconv_powtab), ("loop.example/pub-floatroads/pub/gostrconv.leftcheats", Rows.laid_loop_example_pub_floatroads_pub_gostrconv_leftcheats)] [.data, .data] true :=
  Program.laidByTextLater.sub seatTie2 ["loop.example/pub-floatroads/pub/gostrconv.powtab", "loop.example/pub-floatroads/pub/gostrconv.leftcheats"] (by kernel_rfl) (by kernel_rfl)
theorem fnExactFloatBits_row_tie : Rows.fnExactFloatBitsRow.laidByTextAt .later Tryd.pinned [.data, .data] true :=
  OpenClaim.laidByTextAt_later rfl rfl tie2 noOwnUnsafe
theorem fnExactSlow32_row_tie : Rows.fnExactSlow32Row.laidByTextAt .later Tryd.pinned [.data, .data] true :=
  OpenClaim.laidByTextAt_later rfl rfl tie2 noOwnUnsafe
theorem fnExactSlow64_row_tie : Rows.fnExactSlow64Row.laidByTextAt .later Tryd.pinned [.data, .data] true :=
  OpenClaim.laidByTextAt_later rfl rfl tie2 noOwnUnsafe
theorem fnDecimalRoads_row_tie : Rows.fnDecimalRoadsRow.laidByTextAt .later Tryd.pinned [.data, .data] true :=
  OpenClaim.laidByTextAt_later rfl rfl tie2 noOwnUnsafe
theorem fnExactShiftUpto_row_tie : Rows.fnExactShiftUptoRow.laidByTextAt .later Tryd.pinned [.data] true :=
  OpenClaim.laidByTextAt_later rfl rfl tie noOwnUnsafe
theorem fnShiftBackUpto_row_tie : Rows.fnShiftBackUptoRow.laidByTextAt .later Tryd.pinned [.data] true :=
  OpenClaim.laidByTextAt_later rfl rfl tie noOwnUnsafe
theorem fnShiftSumUpto_row_tie : Rows.fnShiftSumUptoRow.laidByTextAt .later Tryd.pinned [.data] true :=
  OpenClaim.laidByTextAt_later rfl rfl tie noOwnUnsafe
theorem fnExactFloatBitsUpto_row_tie : Rows.fnExactFloatBitsUptoRow.laidByTextAt .later Tryd.pinned [.data, .data] true :=
  OpenClaim.laidByTextAt_later rfl rfl tie2 noOwnUnsafe
theorem fnExactSlow32Upto_row_tie : Rows.fnExactSlow32UptoRow.laidByTextAt .later Tryd.pinned [.data, .data] true :=
  OpenClaim.laidByTextAt_later rfl rfl tie2 noOwnUnsafe
theorem fnExactSlow64Upto_row_tie : Rows.fnExactSlow64UptoRow.laidByTextAt .later Tryd.pinned [.data, .data] true :=
  OpenClaim.laidByTextAt_later rfl rfl tie2 noOwnUnsafe
theorem fnDecimalRoadsUpto_row_tie : Rows.fnDecimalRoadsUptoRow.laidByTextAt .later Tryd.pinned [.data, .data] true :=
  OpenClaim.laidByTextAt_later rfl rfl tie2 noOwnUnsafe
end Go.Proofs.YtfndpecffhempaaDoor
