/-
  THE TIED CARD of 'LawS5361CReserved': the row as proved in YbulkdfzsDoorPrf, its listed variables tied by the given tie.
-/
import Derived.Test.YbulkdfzsDoorPrf
import Derived.Test.YbulkdfzsDoorTie
import Derived.Test.YbulkdfzsDoorCards
import Derived.SevenTiedAt
namespace Go.Proofs.YbulkdfzsDoor
open Go
set_option maxRecDepth 100000

theorem reserved_card : Rows.LawS5361CReservedCardSaid :=
  Claim7.holds_tied_plain_at .later [] [.data, .mapped] true Rows.lawS5361CReservedCard.stood.harness false
    reserved_row (fun _ h => by cases h) (by kernel_rfl) (fun _ h => by cases h) lawS5361CReserved_row_tie rfl ⟨rfl, rfl⟩ (by kernel_rfl) rfl
    (fun f fn hf hfn => by
      obtain rfl : f = 4 := Option.some.inj ((show Ybad.prog.funcNamed Rows.lawS5361CReservedRow.func = some 4 by kernel_rfl).symm.trans hf) |>.symm
      obtain rfl : fn = Ybad.f4 := (Option.some.inj (Ybad.func4.symm.trans hfn)).symm
      exact ⟨by kernel_rfl, fun j t ht => by
        rw [Ybad.params4] at ht
        have hm : t ∈ [5, 9, 4] := by simpa using Array.mem_of_getElem? ht
        have hall : ([5, 9, 4].all fun u => !Ybad.prog.wantsStandIn u) = true := by kernel_rfl
        exact (show Ybad.prog.wantsStandIn t = false by simpa using List.all_eq_true.1 hall t hm)⟩)
    (by kernel_rfl)
#print axioms reserved_card
end Go.Proofs.YbulkdfzsDoor
