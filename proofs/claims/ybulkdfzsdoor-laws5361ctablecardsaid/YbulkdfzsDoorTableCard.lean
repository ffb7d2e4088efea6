/-
  THE TIED CARD of 'LawS5361CTable': the row as proved in YbulkdfzsDoorPrf, its listed variables tied by the given tie.
-/
import Derived.Test.YbulkdfzsDoorPrf
import Derived.Test.YbulkdfzsDoorTie
import Derived.Test.YbulkdfzsDoorCards
import Derived.SevenTiedAt
namespace Go.Proofs.YbulkdfzsDoor
open Go
set_option maxRecDepth 100000

theorem table_card : Rows.LawS5361CTableCardSaid :=
  Claim7.holds_tied_plain_at .later [] [.data, .mapped] true Rows.lawS5361CTableCard.stood.harness false
    table_row (fun _ h => by cases h) (by kernel_rfl) (fun _ h => by cases h) lawS5361CTable_row_tie rfl ⟨rfl, rfl⟩ (by kernel_rfl) rfl
    (fun f fn hf hfn => by
      obtain rfl : f = 3 := Option.some.inj ((show Ybad.prog.funcNamed Rows.lawS5361CTableRow.func = some 3 by kernel_rfl).symm.trans hf) |>.symm
      obtain rfl : fn = Ybad.f3 := (Option.some.inj (Ybad.func3.symm.trans hfn)).symm
      exact ⟨by kernel_rfl, fun j t ht => by
        rw [Ybad.params3] at ht
        have hm : t ∈ [5, 9, 4] := by simpa using Array.mem_of_getElem? ht
        have hall : ([5, 9, 4].all fun u => !Ybad.prog.wantsStandIn u) = true := by kernel_rfl
        exact (show Ybad.prog.wantsStandIn t = false by simpa using List.all_eq_true.1 hall t hm)⟩)
    (by kernel_rfl)
#print axioms table_card
end Go.Proofs.YbulkdfzsDoor
