/-
  DERIVED. GIVEN WITH THE SEED: THE CARDS: each row of YbulkdfzsDoorRows.lean that lists a variable, with what it lists TIED to the program's text (the seventh form; the later family's looks); each row that meets fmt, with fmt's text TOLD by the authors' own Lean function (tested against real Go, not proved from fmt's source: count such statements apart). THE CARD IS WHAT COUNTS. Prove the row's statement (the work); the ties are given (YbulkdfzsDoorTie.lean); close each card by the builder's one call (the guide's Derived/Test/ToyasCard.lean, 'card_holds'). Laid BY PROGRAM, IN A SANDBOX (cutbox-door.mjs). By AI agents, Wed Nov 11 2026. No macro, syntax, notation, axiom, sorry.
-/
import Derived.Test.YbulkdfzsDoorRows
import GoSem.ClaimSeven
namespace Go.Proofs.YbulkdfzsDoor
namespace Rows

/-- THE TIED CARD OF 'notation.LawS5361CTable'. -/
def lawS5361CTableCard : Claim7 := { stood := { row := lawS5361CTableRow, standIns := [], harness := (true, "fd2f793abdf9b7c421ef3df0e76cd2fa053f4b704b34bc82ce6d872ed9df3f0a"), looks := false }, kinds := [], alts := [], laidByText := true, laidKinds := [.data, .mapped], laidTests := true, laidLooks := .later }
def LawS5361CTableCardSaid : Prop := Claim7.holds Ybad.pinned (.plain (OpenSpec.ofChange lawS5361CTableSpec)) lawS5361CTableCard

/-- THE TIED CARD OF 'notation.LawS5361CReserved'. -/
def lawS5361CReservedCard : Claim7 := { stood := { row := lawS5361CReservedRow, standIns := [], harness := (true, "fd2f793abdf9b7c421ef3df0e76cd2fa053f4b704b34bc82ce6d872ed9df3f0a"), looks := false }, kinds := [], alts := [], laidByText := true, laidKinds := [.data, .mapped], laidTests := true, laidLooks := .later }
def LawS5361CReservedCardSaid : Prop := Claim7.holds Ybad.pinned (.plain (OpenSpec.ofChange lawS5361CReservedSpec)) lawS5361CReservedCard
end Rows
end Go.Proofs.YbulkdfzsDoor
