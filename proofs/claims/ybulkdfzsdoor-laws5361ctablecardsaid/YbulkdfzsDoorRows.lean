/-
  NARROWER THAN 'FOR EVERY INPUT', by the rows' own cells (each row's printed sentence says how): LawS5361CTable: maps, laid · LawS5361CReserved: maps, laid.
  DERIVED. THE GIVEN ROWS OF THIS SEAT. 2 by the template 'for every input the law returns true; each argument reads behind the call as it read before'; 0 by the template 'total and deterministic' (their statements: YbulkdfzsDoorTotals.lean).
  GIVEN WITH THE SEED: the statements are not yours to turn. If you find one false, say at which input.
  Laid BY PROGRAM, IN A SANDBOX (cutbox-rows.mjs): the forced cells as the released guide's own fill.sh prints them over the translation d0b4c02e1aba3d90… (all of the seat's roots in one cut). By AI agents, Wed Nov 11 2026. No macro, syntax, notation, axiom, sorry.
-/
import Derived.Test.YbulkdfzsDoorChecked
import GoSem.Claim
import GoSem.ClaimJoined
import GoSem.ClaimMapViews
import Derived.JoinedTies
import Derived.KernelRfl
namespace Go.Proofs.YbulkdfzsDoor
/- THE CELL 'sum', in the pinned program and in every row, IS THE sha256 OF THE DUMP (.gsa) THAT YbulkdfzsDoorProg.lean LOADS. Nothing in Lean hashes anything: it is a label: what it is worth is what the hold of that sum in a sandbox is worth. -/
noncomputable def Ybad.pinned : Pinned := { name := "ybulkdfzsdoor", sum := "d0b4c02e1aba3d9038c8852405643c345fe3b80a121aabb699e28203307e7725", checked := Ybad.checked }
namespace Rows
def none {H : Type} : Left H := { results := [], args := [] }

/- WHAT THE LISTED PACKAGE-LEVEL VARIABLES READ AS WHEN THE CALL BEGINS. Each datum BY PROGRAM (the guide's laid-datum.mjs) off the statement by which the dump's own 'gosem.cut.vars' lays the variable. In a bare row this is a premise. The card (YbulkdfzsDoorCards.lean) ties it to the program's text. -/
def laid_example_com_kindred_kindred_scalarNames {H : Type} : DataW H := .agg [.lit (.string []), .lit (.string [110, 117, 108, 108]), .lit (.string [98, 111, 111, 108]), .lit (.string [105, 110, 116, 56]), .lit (.string [105, 110, 116, 49, 54]), .lit (.string [105, 110, 116, 51, 50]), .lit (.string [105, 110, 116, 54, 52]), .lit (.string [117, 105, 110, 116, 56]), .lit (.string [117, 105, 110, 116, 49, 54]), .lit (.string [117, 105, 110, 116, 51, 50]), .lit (.string [117, 105, 110, 116, 54, 52]), .lit (.string [102, 108, 111, 97, 116, 51, 50]), .lit (.string [102, 108, 111, 97, 116, 54, 52]), .lit (.string [115, 116, 114]), .lit (.string [97, 110, 121]), .lit (.string [110, 101, 118, 101, 114])]
def laid_example_com_kindred_kindred_notation_aliases {H : Type} : DataW H := .map [(.string [98, 121, 116, 101], .lit (.int .u32 7)), (.string [102, 108, 111, 97, 116], .lit (.int .u32 12)), (.string [105, 110, 116], .lit (.int .u32 6)), (.string [115, 116, 114, 105, 110, 103], .lit (.int .u32 13)), (.string [117, 105, 110, 116], .lit (.int .u32 10))]

/-- 'notation.LawS5361CTable': WHATEVER THE INPUT: true; the input reads as it did. -/
def lawS5361CTableSpec : ChangeSpec := { name := "lawS5361CTable", vars := ["example.com/kindred/kindred/notation.aliases", "example.com/kindred/kindred.scalarNames"], fn := fun _ => fun
  | [d1, d2, d3, g1, g2] => { results := [.lit (.bool true)], args := [d1, d2, d3], vars := [g1, g2] }
  | _ => none }
def lawS5361CTableRow : OpenClaim := { program := "ybulkdfzsdoor", sum := "d0b4c02e1aba3d9038c8852405643c345fe3b80a121aabb699e28203307e7725", func := "example.com/kindred/kindred/notation.LawS5361CTable", spec := "lawS5361CTable", named := ["example.com/kindred/kindred/notation.aliases", "example.com/kindred/kindred.scalarNames"], maps := true, apart := false, laid := [("example.com/kindred/kindred.scalarNames", laid_example_com_kindred_kindred_scalarNames), ("example.com/kindred/kindred/notation.aliases", laid_example_com_kindred_kindred_notation_aliases)] }
def LawS5361CTableSaid : Prop := lawS5361CTableRow.holds Ybad.pinned (OpenSpec.ofChange lawS5361CTableSpec)

/-- ITS FALSE NEIGHBOUR: 'it returns false'. Refute it at one input. -/
def lawS5361CTableWrong : ChangeSpec := { name := "lawS5361CTable", vars := ["example.com/kindred/kindred/notation.aliases", "example.com/kindred/kindred.scalarNames"], fn := fun _ => fun
  | [d1, d2, d3, g1, g2] => { results := [.lit (.bool false)], args := [d1, d2, d3], vars := [g1, g2] }
  | _ => none }
def LawS5361CTableWrongFalsely : Prop := lawS5361CTableRow.holds Ybad.pinned (OpenSpec.ofChange lawS5361CTableWrong)

/-- 'notation.LawS5361CReserved': WHATEVER THE INPUT: true; the input reads as it did. -/
def lawS5361CReservedSpec : ChangeSpec := { name := "lawS5361CReserved", vars := ["example.com/kindred/kindred/notation.aliases", "example.com/kindred/kindred.scalarNames"], fn := fun _ => fun
  | [d1, d2, d3, g1, g2] => { results := [.lit (.bool true)], args := [d1, d2, d3], vars := [g1, g2] }
  | _ => none }
def lawS5361CReservedRow : OpenClaim := { program := "ybulkdfzsdoor", sum := "d0b4c02e1aba3d9038c8852405643c345fe3b80a121aabb699e28203307e7725", func := "example.com/kindred/kindred/notation.LawS5361CReserved", spec := "lawS5361CReserved", named := ["example.com/kindred/kindred/notation.aliases", "example.com/kindred/kindred.scalarNames"], maps := true, apart := false, laid := [("example.com/kindred/kindred.scalarNames", laid_example_com_kindred_kindred_scalarNames), ("example.com/kindred/kindred/notation.aliases", laid_example_com_kindred_kindred_notation_aliases)] }
def LawS5361CReservedSaid : Prop := lawS5361CReservedRow.holds Ybad.pinned (OpenSpec.ofChange lawS5361CReservedSpec)

/-- ITS FALSE NEIGHBOUR: 'it returns false'. Refute it at one input. -/
def lawS5361CReservedWrong : ChangeSpec := { name := "lawS5361CReserved", vars := ["example.com/kindred/kindred/notation.aliases", "example.com/kindred/kindred.scalarNames"], fn := fun _ => fun
  | [d1, d2, d3, g1, g2] => { results := [.lit (.bool false)], args := [d1, d2, d3], vars := [g1, g2] }
  | _ => none }
def LawS5361CReservedWrongFalsely : Prop := lawS5361CReservedRow.holds Ybad.pinned (OpenSpec.ofChange lawS5361CReservedWrong)

end Rows
end Go.Proofs.YbulkdfzsDoor
