/-
  No cell of these rows narrows 'for every input' (looked for: loops, veiled, ifaces, maps, wideKeys, modest, calm, conditions, laid).
  DERIVED. THE GIVEN ROWS OF THIS SEAT. 2 by the template 'for every input the law returns true; each argument reads behind the call as it read before'; 0 by the template 'total and deterministic' (their statements: YbulkdghuTotals.lean).
  GIVEN WITH THE SEED: the statements are not yours to turn. If you find one false, say at which input.
  Laid BY PROGRAM, IN A SANDBOX (cutbox-rows.mjs): the forced cells as the released guide's own fill.sh prints them over the translation 4764dfdacb97cfc7… (all of the seat's roots in one cut). By AI agents, Wed Nov 11 2026. No macro, syntax, notation, axiom, sorry.
-/
import Derived.Test.YbulkdghuChecked
import GoSem.Claim
import GoSem.ClaimJoined
import GoSem.ClaimMapViews
import Derived.JoinedTies
import Derived.KernelRfl
namespace Go.Proofs.Ybulkdghu
/- THE CELL 'sum', in the pinned program and in every row, IS THE sha256 OF THE DUMP (.gsa) THAT YbulkdghuProg.lean LOADS. Nothing in Lean hashes anything: it is a label: what it is worth is what the hold of that sum in a sandbox is worth. -/
noncomputable def Yba.pinned : Pinned := { name := "ybulkdghu", sum := "4764dfdacb97cfc714e6d1ebe618cd54459f57d817dea7e156697c178786800d", checked := Yba.checked }
namespace Rows
def none {H : Type} : Left H := { results := [], args := [] }

/-- 'relationship.LawS5376CText': WHATEVER THE INPUT: true; the input reads as it did. -/
def lawS5376CTextSpec : ChangeSpec := { name := "lawS5376CText", fn := fun _ => fun
  | [d1, d2] => { results := [.lit (.bool true)], args := [d1, d2] }
  | _ => none }
def lawS5376CTextRow : OpenClaim := { program := "ybulkdghu", sum := "4764dfdacb97cfc714e6d1ebe618cd54459f57d817dea7e156697c178786800d", func := "example.com/satok/satok/relationship.LawS5376CText", spec := "lawS5376CText", inPlace := ["internal/bytealg.abigen_runtime_cmpstring"], apart := false }
def LawS5376CTextSaid : Prop := lawS5376CTextRow.holds Yba.pinned (OpenSpec.ofChange lawS5376CTextSpec)

/-- ITS FALSE NEIGHBOUR: 'it returns false'. Refute it at one input. -/
def lawS5376CTextWrong : ChangeSpec := { name := "lawS5376CText", fn := fun _ => fun
  | [d1, d2] => { results := [.lit (.bool false)], args := [d1, d2] }
  | _ => none }
def LawS5376CTextWrongFalsely : Prop := lawS5376CTextRow.holds Yba.pinned (OpenSpec.ofChange lawS5376CTextWrong)

/-- 'relationship.LawS5376CAntisym': WHATEVER THE INPUT: true; the input reads as it did. -/
def lawS5376CAntisymSpec : ChangeSpec := { name := "lawS5376CAntisym", fn := fun _ => fun
  | [d1, d2, d3, d4, d5, d6] => { results := [.lit (.bool true)], args := [d1, d2, d3, d4, d5, d6] }
  | _ => none }
def lawS5376CAntisymRow : OpenClaim := { program := "ybulkdghu", sum := "4764dfdacb97cfc714e6d1ebe618cd54459f57d817dea7e156697c178786800d", func := "example.com/satok/satok/relationship.LawS5376CAntisym", spec := "lawS5376CAntisym", inPlace := ["internal/bytealg.abigen_runtime_cmpstring"], apart := false }
def LawS5376CAntisymSaid : Prop := lawS5376CAntisymRow.holds Yba.pinned (OpenSpec.ofChange lawS5376CAntisymSpec)

/-- ITS FALSE NEIGHBOUR: 'it returns false'. Refute it at one input. -/
def lawS5376CAntisymWrong : ChangeSpec := { name := "lawS5376CAntisym", fn := fun _ => fun
  | [d1, d2, d3, d4, d5, d6] => { results := [.lit (.bool false)], args := [d1, d2, d3, d4, d5, d6] }
  | _ => none }
def LawS5376CAntisymWrongFalsely : Prop := lawS5376CAntisymRow.holds Yba.pinned (OpenSpec.ofChange lawS5376CAntisymWrong)

end Rows
end Go.Proofs.Ybulkdghu
