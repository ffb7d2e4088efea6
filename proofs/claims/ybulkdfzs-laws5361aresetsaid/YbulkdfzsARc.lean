import Derived.Test.YbulkdfzsARBase
namespace Go.Proofs.Ybulkdfzs.AR
open Go.RowKit
set_option linter.unusedVariables false
set_option linter.unusedSimpArgs false
set_option maxRecDepth 100000

/-- The row of the other writers behind k rounds. -/
def otF (T k i : Nat) : Value := if i < k then .pointer (some ⟨T + 1 + i, 0, none⟩) else .pointer none

set_option maxHeartbeats 2000000 in
theorem seg8 (T m : Nat) (hm : m < 8) (v : Nat → Value) (a : Act) (w1 : World) (Q : Exit → Act → World → Prop) (hF : Fr 299 a) (h23 : slot a 23 = .int .i64 (m : Nat)) (h24 : slot a 24 = .slice (some ⟨T, 0, none⟩) m m) (hK : Keep [0, 1, 2, 3, 4, 5, 13, 16] v a)
    (hrow : w1.rowIs T 33 m (otF T 0)) (hsz : w1.heap.size = T + 1)
    (hnext : Hid (∀ a' w', Fr 299 a' → slot a' 23 = .int .i64 (m : Nat) → slot a' 24 = .slice (some ⟨T, 0, none⟩) m m → Keep [0, 1, 2, 3, 4, 5, 13, 16] v a' → w'.rowIs T 33 m (otF T m) → w'.heap.size = T + 1 + m → Below T w1 w' → Q .normal a' w')) :
    Code.wp Yba.prog (seqPart 8 (bodyOf Yba.f3)) Q a w1 := by
  have hsz' := hide hsz
  clear hsz
  obtain ⟨u, rfl, hu⟩ := to_lit hF
  have e23 := (hu 23 (by omega)).symm.trans h23
  have e24 := (hu 24 (by omega)).symm.trans h24
  clear hu hF h23 h24
  have hKK := hide hK
  clear hK
  conv => arg 2; whnf
  rw [e23, e24]
  clear e23 e24
  go_wp2
  refine loop_rule (fun n a w' => ∃ k, n + k = m ∧ Fr 299 a ∧ slot a 23 = .int .i64 (m : Nat) ∧ slot a 24 = .slice (some ⟨T, 0, none⟩) m m ∧ slot a 25 = .int .i64 (k : Nat) ∧ Keep [0, 1, 2, 3, 4, 5, 13, 16] v a ∧ w'.rowIs T 33 m (otF T k) ∧ w'.heap.size = T + 1 + k ∧ Below T w1 w')
    m ?_ ?_
  · refine ⟨0, rfl, ⟨rfl, rfl⟩, rfl, rfl, rfl, ?_, hrow, hsz'.out, Below.refl _ _⟩
    intro i hi
    have := hKK.out i hi
    simp only [List.mem_cons, List.not_mem_nil, or_false] at hi
    rcases hi with rfl | rfl | rfl | rfl | rfl | rfl | rfl | rfl <;> exact this

  · clear hKK hrow u
    rintro n a wr ⟨k, hk, hF, h23, h24, h25, hK, hrow, hszr, hbr⟩ R hR hexit
    obtain ⟨u, rfl, hu⟩ := to_lit hF
    have e23 := (hu 23 (by omega)).symm.trans h23
    have e24 := (hu 24 (by omega)).symm.trans h24
    have e25 := (hu 25 (by omega)).symm.trans h25
    clear hu hF h23 h24 h25
    have hKK := hide hK
    clear hK
    rw [e23, e24, e25]
    clear e23 e24 e25

    have hk' := hide hk
    have hkle : k ≤ m := by omega
    clear hk
    by_cases hlt : k < m
    · obtain ⟨x1, hx1⟩ : ∃ x, wr.cell? ⟨T, k, none⟩ = some x := ⟨_, hrow.cell (by omega)⟩
      have hz := hrow.frozen
      have hTs : T < wr.heap.size := hrow.lt
      have hszr' := hide hszr
      clear hszr
      go_wp2
      have hszr := hszr'.out
      refine hR.out (n - 1) _ _ (by have := hk'.out; omega) ⟨k + 1, by have := hk'.out; omega, ⟨rfl, rfl⟩, rfl, rfl, congrArg (Value.int .i64) (by omega), ?_, ((hrow.set _ _).alloc _).congr (fun i hi => ?_), ?_, (hbr.setCell (Nat.le_refl _) _).alloc (by rw [size_setCell]; omega) _⟩
      · intro i hi
        have := hKK.out i hi
        simp only [List.mem_cons, List.not_mem_nil, or_false] at hi
        rcases hi with rfl | rfl | rfl | rfl | rfl | rfl | rfl | rfl <;> exact this
      · unfold otF
        rw [hszr]
        by_cases e : i = k
        · subst e; simp
        · have : (i < k + 1) = (i < k) := by apply propext; omega
          simp only [e, if_false, this]
      · simp [size_setCell, hszr]
        omega
    · obtain rfl : k = m := by omega
      go_wp2
      refine hexit.out _ _ _ (by simp) (hnext.out _ _ ⟨rfl, rfl⟩ rfl rfl ?_ hrow hszr hbr)
      intro i hi
      have := hKK.out i hi
      simp only [List.mem_cons, List.not_mem_nil, or_false] at hi
      rcases hi with rfl | rfl | rfl | rfl | rfl | rfl | rfl | rfl <;> exact this

end Go.Proofs.Ybulkdfzs.AR
