import Derived.Test.YbulkdghuLaw
namespace Go.Proofs.Ybulkdghu.T
open Go.RowKit
set_option linter.unusedVariables false
set_option linter.unusedSimpArgs false
set_option maxRecDepth 100000

set_option maxHeartbeats 1000000 in
/-- THE EARLY WAY: a slice of more than 300 indices. -/
theorem law_big (s0 s1 s2 r0 r1 r2 : Sl) (w : World) (h : ¬ (s0.len ≤ 300 ∧ s1.len ≤ 300 ∧ s2.len ≤ 300 ∧ r0.len ≤ 300 ∧ r1.len ≤ 300 ∧ r2.len ≤ 300)) :
    Calls Yba.prog 3 #[.agg #[.slice s0.a s0.len s0.cap, .slice s1.a s1.len s1.cap, .slice s2.a s2.len s2.cap], .agg #[.slice r0.a r0.len r0.cap, .slice r1.a r1.len r1.cap, .slice r2.a r2.len r2.cap]] w
      fun e w' => e = .returned (.bool true) ∧ Below w.heap.size w w' := by
  by_cases h0 : s0.len ≤ 300
  case neg =>
    have b0 : (300 : Int) < (s0.len : Int) := by omega
    clear h h0
    go_enter Yba.func3, Yba.ntmps3
    go_wp2
    go_ret
    exact ⟨rfl, belowTwo _ _ _⟩
  by_cases h1 : s1.len ≤ 300
  case neg =>
    have b0 : ¬ (300 : Int) < (s0.len : Int) := by omega
    have b1 : (300 : Int) < (s1.len : Int) := by omega
    clear h h0 h1
    go_enter Yba.func3, Yba.ntmps3
    go_wp2
    go_ret
    exact ⟨rfl, belowTwo _ _ _⟩
  by_cases h2 : s2.len ≤ 300
  case neg =>
    have b0 : ¬ (300 : Int) < (s0.len : Int) := by omega
    have b1 : ¬ (300 : Int) < (s1.len : Int) := by omega
    have b2 : (300 : Int) < (s2.len : Int) := by omega
    clear h h0 h1 h2
    go_enter Yba.func3, Yba.ntmps3
    go_wp2
    go_ret
    exact ⟨rfl, belowTwo _ _ _⟩
  by_cases h3 : r0.len ≤ 300
  case neg =>
    have b0 : ¬ (300 : Int) < (s0.len : Int) := by omega
    have b1 : ¬ (300 : Int) < (s1.len : Int) := by omega
    have b2 : ¬ (300 : Int) < (s2.len : Int) := by omega
    have b3 : (300 : Int) < (r0.len : Int) := by omega
    clear h h0 h1 h2 h3
    go_enter Yba.func3, Yba.ntmps3
    go_wp2
    go_ret
    exact ⟨rfl, belowTwo _ _ _⟩
  by_cases h4 : r1.len ≤ 300
  case neg =>
    have b0 : ¬ (300 : Int) < (s0.len : Int) := by omega
    have b1 : ¬ (300 : Int) < (s1.len : Int) := by omega
    have b2 : ¬ (300 : Int) < (s2.len : Int) := by omega
    have b3 : ¬ (300 : Int) < (r0.len : Int) := by omega
    have b4 : (300 : Int) < (r1.len : Int) := by omega
    clear h h0 h1 h2 h3 h4
    go_enter Yba.func3, Yba.ntmps3
    go_wp2
    go_ret
    exact ⟨rfl, belowTwo _ _ _⟩
  by_cases h5 : r2.len ≤ 300
  case neg =>
    have b0 : ¬ (300 : Int) < (s0.len : Int) := by omega
    have b1 : ¬ (300 : Int) < (s1.len : Int) := by omega
    have b2 : ¬ (300 : Int) < (s2.len : Int) := by omega
    have b3 : ¬ (300 : Int) < (r0.len : Int) := by omega
    have b4 : ¬ (300 : Int) < (r1.len : Int) := by omega
    have b5 : (300 : Int) < (r2.len : Int) := by omega
    clear h h0 h1 h2 h3 h4 h5
    go_enter Yba.func3, Yba.ntmps3
    go_wp2
    go_ret
    exact ⟨rfl, belowTwo _ _ _⟩
  exact absurd ⟨h0, h1, h2, h3, h4, h5⟩ h
end Go.Proofs.Ybulkdghu.T
