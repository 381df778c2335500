/-
  DERIVED. GIVEN WITH THE SEED: THE PROGRAM's TIES (one call each: nine closed facts by the kernel) AND EACH ROW's TIE, after the 31st guide's Derived/Test/Toyas{Tie, Card}.lean. No idea stands in it: it is a product of the set-up. Laid BY PROGRAM, IN A SANDBOX (cutbox-door.mjs). By AI agents, Wed Nov 11 2026. No macro, syntax, notation, axiom, sorry.
-/
import Derived.Test.YtekicbnfabpaeaaDoorRows
import Derived.LaidByTextLater
import Derived.SevenTiedAt
import Derived.LaidSub
import Derived.LaidOnce
namespace Go.Proofs.YtekicbnfabpaeaaDoor
open Go
set_option maxRecDepth 100000
theorem seatTie1 : Tryd.prog.laidByTextLater [("loop.example/pub-floatroads/pub/gostrconv.uint64pow10", Rows.laid_loop_example_pub_floatroads_pub_gostrconv_uint64pow10)] [.data] true :=
  Program.laidByTextLater_by_one 14 8 21 (by kernel_rfl) (by kernel_rfl) (by kernel_rfl) (by kernel_rfl) (by kernel_rfl) (by kernel_rfl) (fun _ _ => by kernel_rfl)
theorem noOwnUnsafe : Tryd.pinned.checked.prog.headLifts.contains "ownunsafe" = false := by kernel_rfl
theorem tie : Tryd.prog.laidByTextLater [("loop.example/pub-floatroads/pub/gostrconv.uint64pow10", Rows.laid_loop_example_pub_floatroads_pub_gostrconv_uint64pow10)] [.data] true :=
  Program.laidByTextLater.sub seatTie1 ["loop.example/pub-floatroads/pub/gostrconv.uint64pow10"] (by kernel_rfl) (by kernel_rfl)
theorem fnExactNumDigits_row_tie : Rows.fnExactNumDigitsRow.laidByTextAt .later Tryd.pinned [.data] true :=
  OpenClaim.laidByTextAt_later rfl rfl tie noOwnUnsafe
theorem fnExactNumDigitsUpto_row_tie : Rows.fnExactNumDigitsUptoRow.laidByTextAt .later Tryd.pinned [.data] true :=
  OpenClaim.laidByTextAt_later rfl rfl tie noOwnUnsafe
end Go.Proofs.YtekicbnfabpaeaaDoor
