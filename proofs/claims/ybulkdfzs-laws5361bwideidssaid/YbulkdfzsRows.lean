/-
  No cell of these rows narrows 'for every input' (looked for: loops, veiled, ifaces, maps, wideKeys, modest, calm, conditions, laid).
  DERIVED. THE GIVEN ROWS OF THIS SEAT. 3 by the template 'for every input the law returns true; each argument reads behind the call as it read before'; 0 by the template 'total and deterministic' (their statements: YbulkdfzsTotals.lean).
  GIVEN WITH THE SEED: the statements are not yours to turn. If you find one false, say at which input.
  Laid BY PROGRAM, IN A SANDBOX (cutbox-rows.mjs): the forced cells as the released guide's own fill.sh prints them over the translation 7dae450024afe69e… (all of the seat's roots in one cut). By AI agents, Wed Nov 11 2026. No macro, syntax, notation, axiom, sorry.
-/
import Derived.Test.YbulkdfzsChecked
import GoSem.Claim
import GoSem.ClaimJoined
import GoSem.ClaimMapViews
import Derived.JoinedTies
import Derived.KernelRfl
namespace Go.Proofs.Ybulkdfzs
/- THE CELL 'sum', in the pinned program and in every row, IS THE sha256 OF THE DUMP (.gsa) THAT YbulkdfzsProg.lean LOADS. Nothing in Lean hashes anything: it is a label: what it is worth is what the hold of that sum in a sandbox is worth. -/
noncomputable def Yba.pinned : Pinned := { name := "ybulkdfzs", sum := "7dae450024afe69e495a210289ac5c18fb4a8eb173784e194ff45ffcf1bb6d57", checked := Yba.checked }
namespace Rows
def none {H : Type} : Left H := { results := [], args := [] }

/-- 'kindred.LawS5361AReset': WHATEVER THE INPUT: true; the input reads as it did. -/
def lawS5361AResetSpec : ChangeSpec := { name := "lawS5361AReset", fn := fun _ => fun
  | [d1, d2, d3, d4, d5, d6] => { results := [.lit (.bool true)], args := [d1, d2, d3, d4, d5, d6] }
  | _ => none }
def lawS5361AResetRow : OpenClaim := { program := "ybulkdfzs", sum := "7dae450024afe69e495a210289ac5c18fb4a8eb173784e194ff45ffcf1bb6d57", func := "example.com/kindred/kindred.LawS5361AReset", spec := "lawS5361AReset", plainKeys := false, apart := false }
def LawS5361AResetSaid : Prop := lawS5361AResetRow.holds Yba.pinned (OpenSpec.ofChange lawS5361AResetSpec)

/-- ITS FALSE NEIGHBOUR: 'it returns false'. Refute it at one input. -/
def lawS5361AResetWrong : ChangeSpec := { name := "lawS5361AReset", fn := fun _ => fun
  | [d1, d2, d3, d4, d5, d6] => { results := [.lit (.bool false)], args := [d1, d2, d3, d4, d5, d6] }
  | _ => none }
def LawS5361AResetWrongFalsely : Prop := lawS5361AResetRow.holds Yba.pinned (OpenSpec.ofChange lawS5361AResetWrong)

/-- 'kindred.LawS5361BSmallIDs': WHATEVER THE INPUT: true; the input reads as it did. -/
def lawS5361BSmallIDsSpec : ChangeSpec := { name := "lawS5361BSmallIDs", fn := fun _ => fun
  | [d1, d2] => { results := [.lit (.bool true)], args := [d1, d2] }
  | _ => none }
def lawS5361BSmallIDsRow : OpenClaim := { program := "ybulkdfzs", sum := "7dae450024afe69e495a210289ac5c18fb4a8eb173784e194ff45ffcf1bb6d57", func := "example.com/kindred/kindred.LawS5361BSmallIDs", spec := "lawS5361BSmallIDs", recurses := true, plainKeys := false, apart := false }
def LawS5361BSmallIDsSaid : Prop := lawS5361BSmallIDsRow.holds Yba.pinned (OpenSpec.ofChange lawS5361BSmallIDsSpec)

/-- ITS FALSE NEIGHBOUR: 'it returns false'. Refute it at one input. -/
def lawS5361BSmallIDsWrong : ChangeSpec := { name := "lawS5361BSmallIDs", fn := fun _ => fun
  | [d1, d2] => { results := [.lit (.bool false)], args := [d1, d2] }
  | _ => none }
def LawS5361BSmallIDsWrongFalsely : Prop := lawS5361BSmallIDsRow.holds Yba.pinned (OpenSpec.ofChange lawS5361BSmallIDsWrong)

/-- 'kindred.LawS5361BWideIDs': WHATEVER THE INPUT: true; the input reads as it did. -/
def lawS5361BWideIDsSpec : ChangeSpec := { name := "lawS5361BWideIDs", fn := fun _ => fun
  | [d1, d2] => { results := [.lit (.bool true)], args := [d1, d2] }
  | _ => none }
def lawS5361BWideIDsRow : OpenClaim := { program := "ybulkdfzs", sum := "7dae450024afe69e495a210289ac5c18fb4a8eb173784e194ff45ffcf1bb6d57", func := "example.com/kindred/kindred.LawS5361BWideIDs", spec := "lawS5361BWideIDs", recurses := true, plainKeys := false, apart := false }
def LawS5361BWideIDsSaid : Prop := lawS5361BWideIDsRow.holds Yba.pinned (OpenSpec.ofChange lawS5361BWideIDsSpec)

/-- ITS FALSE NEIGHBOUR: 'it returns false'. Refute it at one input. -/
def lawS5361BWideIDsWrong : ChangeSpec := { name := "lawS5361BWideIDs", fn := fun _ => fun
  | [d1, d2] => { results := [.lit (.bool false)], args := [d1, d2] }
  | _ => none }
def LawS5361BWideIDsWrongFalsely : Prop := lawS5361BWideIDsRow.holds Yba.pinned (OpenSpec.ofChange lawS5361BWideIDsWrong)

end Rows
end Go.Proofs.Ybulkdfzs
