import Derived.Test.YbulkdfzsARBase
import Derived.LaidEqlPtr
namespace Go.Proofs.Ybulkdfzs.AR
open Go.RowKit
set_option linter.unusedVariables false
set_option linter.unusedSimpArgs false

/-- 'p != p' at a pointer: false. -/
theorem run_neq_ptr_same {P : Program} (w : World) {tp te : TypeId} {j : TypeInfo} (a : Addr) (hp : P.underlying tp = some (.pointer te)) (hte : P.info? te = some j) :
    (binOp .neq tp (.pointer (some a)) (.pointer (some a))).run P w = .ok (.bool false) w := by
  have h : ∀ d : Nat, (Op.equalIn (d + 1) tp (.pointer (some a)) (.pointer (some a))).run P w = .ok true w := fun d => by
    simp [Op.equalIn, run_underlying hp, sizeOf, typeInfo, hte, run_sameAddr_same]
  simp only [binOp]
  simp [Op.equal, Op.maxDepth, h 9999]

theorem neq41 (w : World) (a : Addr) : (binOp .neq 41 (.pointer (some a)) (.pointer (some a))).run Yba.prog w = .ok (.bool false) w := by
  have hj : ∃ j, Yba.prog.info? 38 = some j := Option.isSome_iff_exists.1 (by kernel_rfl)
  obtain ⟨j, hj⟩ := hj
  exact run_neq_ptr_same w a Yba.underlying41 hj
theorem neq33 (w : World) (a : Addr) : (binOp .neq 33 (.pointer (some a)) (.pointer (some a))).run Yba.prog w = .ok (.bool false) w := by
  have hj : ∃ j, Yba.prog.info? 43 = some j := Option.isSome_iff_exists.1 (by kernel_rfl)
  obtain ⟨j, hj⟩ := hj
  exact run_neq_ptr_same w a Yba.underlying33 hj
end Go.Proofs.Ybulkdfzs.AR
