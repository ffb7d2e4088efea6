import Derived.Test.YbulkdfzsDoorWk
namespace Go.Proofs.YbulkdfzsDoor.T
open Go.RowKit
set_option linter.unusedVariables false
set_option linter.unusedSimpArgs false
set_option maxRecDepth 100000

set_option maxHeartbeats 1000000 in
/-- LawS5361CTable. -/
theorem table_law (p : Int) (hp0 : 0 ≤ p) (hp : p ≤ 255) (raw : ByteArray) (hraw : raw.size ≤ maxLen) (useRaw : Bool) (w : World) (hT : ∀ w', Below w.heap.size w w' → Tabs w') :
    Calls Ybad.prog 3 #[.int .u8 p, .string raw, .bool useRaw] w fun e w' => e = .returned (.bool true) ∧ Below w.heap.size w w' := by
  have hT' := hide hT
  clear hT
  go_enter Ybad.func3, Ybad.ntmps3
  go_wp2_with fail
  refine (name_any p hp0 hp raw hraw useRaw w).mono ?_
  rintro e w1 ⟨s, hs, rfl, hb⟩
  have hB := hide hb
  have hn := hide (named_any s hs w1 (hT'.out w1 hb))
  have hm := hide (model_all s w1)
  clear hb
  rw [sn_md] at hn
  generalize md s.toList = r at hn hm
  obtain ⟨x, b⟩ := r
  go_wp2_with (first | (go_at_call 6; refine hn.out.mono ?_; rintro e w' ⟨rfl, rfl⟩) | (go_at_call 7; refine hm.out.mono ?_; rintro e w' ⟨rfl, rfl⟩))
  go_ret
  exact ⟨rfl, hB.out⟩

set_option maxHeartbeats 1000000 in
/-- LawS5361CReserved. -/
theorem reserved_law (p : Int) (hp0 : 0 ≤ p) (hp : p ≤ 255) (raw : ByteArray) (hraw : raw.size ≤ maxLen) (useRaw : Bool) (w : World) (hT : ∀ w', Below w.heap.size w w' → Tabs w') :
    Calls Ybad.prog 4 #[.int .u8 p, .string raw, .bool useRaw] w fun e w' => e = .returned (.bool true) ∧ Below w.heap.size w w' := by
  have hT' := hide hT
  clear hT
  go_enter Ybad.func4, Ybad.ntmps4
  go_wp2_with fail
  refine (name_any p hp0 hp raw hraw useRaw w).mono ?_
  rintro e w1 ⟨s, hs, rfl, hb⟩
  have hB := hide hb
  have hr := hide (reserved_any s hs w1 (hT'.out w1 hb))
  have hm := hide (model_all s w1)
  clear hb
  rw [sn_md] at hr
  generalize md s.toList = r at hr hm
  obtain ⟨x, b⟩ := r
  cases h1 : (s.toList == [109, 97, 112]) <;> cases h2 : (s.toList == [102, 117, 110]) <;> cases b
  all_goals
    rw [h1, h2] at hr
    simp only [Bool.or_false, Bool.or_true, Bool.false_or, Bool.true_or] at hr
    go_wp2_with (first | (go_at_call 7; refine hm.out.mono ?_; rintro e w' ⟨rfl, rfl⟩) | (go_at_call 8; refine hr.out.mono ?_; rintro e w' ⟨rfl, rfl⟩))
  all_goals (go_ret; exact ⟨rfl, hB.out⟩)
end Go.Proofs.YbulkdfzsDoor.T
