/-
  DERIVED. GIVEN WITH THE SEED: THE PROGRAM's TIES (one call each: nine closed facts by the kernel) AND EACH ROW's TIE, after the 31st guide's Derived/Test/Toyas{Tie, Card}.lean. No idea stands in it: it is a product of the set-up. Laid BY PROGRAM, IN A SANDBOX (cutbox-door.mjs). By AI agents, Wed Nov 11 2026. No macro, syntax, notation, axiom, sorry.
-/
import Derived.Test.YbulkdfzsDoorRows
import Derived.LaidByTextLater
import Derived.SevenTiedAt
import Derived.LaidSub
import Derived.LaidOnce
namespace Go.Proofs.YbulkdfzsDoor
open Go
set_option maxRecDepth 100000
theorem seatTie1 : Ybad.prog.laidByTextLater [("example.com/kindred/kindred.scalarNames", Rows.laid_example_com_kindred_kindred_scalarNames), ("example.com/kindred/kindred/notation.aliases", Rows.laid_example_com_kindred_kindred_notation_aliases)] [.data, .mapped] true :=
  Program.laidByTextLater_by_one 44 8 17 (by kernel_rfl) (by kernel_rfl) (by kernel_rfl) (by kernel_rfl) (by kernel_rfl) (by kernel_rfl) (fun _ _ => by kernel_rfl)
theorem noOwnUnsafe : Ybad.pinned.checked.prog.headLifts.contains "ownunsafe" = false := by kernel_rfl
theorem tie : Ybad.prog.laidByTextLater [("example.com/kindred/kindred.scalarNames", Rows.laid_example_com_kindred_kindred_scalarNames), ("example.com/kindred/kindred/notation.aliases", Rows.laid_example_com_kindred_kindred_notation_aliases)] [.data, .mapped] true :=
  Program.laidByTextLater.sub seatTie1 ["example.com/kindred/kindred.scalarNames", "example.com/kindred/kindred/notation.aliases"] (by kernel_rfl) (by kernel_rfl)
theorem lawS5361CTable_row_tie : Rows.lawS5361CTableRow.laidByTextAt .later Ybad.pinned [.data, .mapped] true :=
  OpenClaim.laidByTextAt_later rfl rfl tie noOwnUnsafe
theorem lawS5361CReserved_row_tie : Rows.lawS5361CReservedRow.laidByTextAt .later Ybad.pinned [.data, .mapped] true :=
  OpenClaim.laidByTextAt_later rfl rfl tie noOwnUnsafe
end Go.Proofs.YbulkdfzsDoor
