import Derived.Test.YbulkdghuBase
namespace Go.Proofs.Ybulkdghu.T
open Go.RowKit
set_option linter.unusedVariables false
set_option linter.unusedSimpArgs false
set_option maxRecDepth 100000

set_option maxHeartbeats 1000000 in
/-- internal/bytealg.CompareString. -/
theorem cmpString (a b : ByteArray) (w : World) :
    Calls Yba.prog 10 #[.string a, .string b] w fun e w' => e = .returned (.int .i64 (Lib.compareBytes a.data.toList b.data.toList)) ∧ w' = w := by
  go_enter Yba.func10, Yba.ntmps10
  go_wp2

  rw [run_callFunc_extern Yba.func12 (by kernel_rfl) (by kernel_rfl) (by kernel_rfl) (e := Extern.BytealgCompare.compare) (by kernel_rfl), Lib.run_compareString]
  simp only [Result.andThen]
  rw [Oper.upon_value]
  go_wp2
  go_ret
  exact ⟨rfl, rfl⟩

set_option maxHeartbeats 1000000 in
/-- strings.Compare. -/
theorem compare_any (a b : ByteArray) (w : World) :
    Calls Yba.prog 7 #[.string a, .string b] w fun e w' => e = .returned (.int .i64 (Lib.compareBytes a.data.toList b.data.toList)) ∧ w' = w := by
  go_enter Yba.func7, Yba.ntmps7
  go_wp2_with (go_at_call 10; refine (cmpString _ _ _).mono ?_; rintro e w' ⟨rfl, rfl⟩)
  go_ret
  exact ⟨rfl, rfl⟩

/-- cmp.Compare at byte. -/
def cmpI (x y : Int) : Int := if x < y then -1 else if y < x then 1 else 0

set_option maxHeartbeats 1000000 in
theorem cmpByte (x y : Int) (w : World) :
    Calls Yba.prog 13 #[.int .u8 x, .int .u8 y] w fun e w' => e = .returned (.int .i64 (cmpI x y)) ∧ w' = w := by
  go_enter Yba.func13, Yba.ntmps13
  go_wp2

  all_goals (go_ret; refine ⟨?_, rfl⟩; unfold cmpI; (repeat' split) <;> first | rfl | (exfalso; omega))
end Go.Proofs.Ybulkdghu.T
