import Derived.Test.YbulkdfzsARq
import Derived.Test.YbulkdfzsARa
import Derived.Deep.QuietTactic
import Derived.BigQuiet
namespace Go.Proofs.Ybulkdfzs.AR
open Go.RowKit
set_option linter.unusedVariables false
set_option linter.unusedSimpArgs false
set_option maxRecDepth 100000

set_option maxHeartbeats 2000000 in
theorem seg20 (O l1 : Nat) (hl1 : l1 ≤ 1024) (v : Nat → Value) (a : Act) (w : World) (Q : Exit → Act → World → Prop) (hF : Fr 299 a) (h16 : slot a 16 = .slice (some ⟨O, 0, none⟩) l1 l1) (hK : Keep [0, 13, 23, 24, 26, 30] v a)
    (hrow : w.rowIs O 37 (l1 * 2) (fun _ => .slice none 0 0))
    (hnext : Hid (∀ a', Fr 299 a' → Keep [0, 13, 23, 24, 26, 30] v a' → Q .normal a' w)) :
    Code.wp Yba.prog (seqPart 20 (bodyOf Yba.f3)) Q a w := by
  have hrow' := hide hrow
  clear hrow
  obtain ⟨u, rfl, hu⟩ := to_lit hF
  have e16 := (hu 16 (by omega)).symm.trans h16
  clear hu hF h16
  have hKK := hide hK
  clear hK
  conv => arg 2; whnf
  rw [e16]
  clear e16
  go_wp2
  refine loop_rule (fun n a w' => ∃ k, n + k = l1 ∧ Fr 299 a ∧ slot a 16 = .slice (some ⟨O, 0, none⟩) l1 l1 ∧ slot a 31 = .int .i64 (k : Nat) ∧ Keep [0, 13, 23, 24, 26, 30] v a ∧ w' = w)
    l1 ?_ ?_
  · refine ⟨0, rfl, ⟨rfl, rfl⟩, rfl, rfl, ?_, rfl⟩
    intro i hi
    have := hKK.out i hi
    simp only [List.mem_cons, List.not_mem_nil, or_false] at hi
    rcases hi with rfl | rfl | rfl | rfl | rfl | rfl <;> exact this

  · clear hKK u
    rintro n a w' ⟨k, hk, hF, h16, h31, hK, rfl⟩ R hR hexit
    obtain ⟨u, rfl, hu⟩ := to_lit hF
    have e16 := (hu 16 (by omega)).symm.trans h16
    have e31 := (hu 31 (by omega)).symm.trans h31
    clear hu hF h16 h31
    have hKK := hide hK
    clear hK
    rw [e16, e31]
    clear e16 e31

    have hk' := hide hk
    have hkle : k ≤ l1 := by omega
    clear hk
    by_cases hlt : k < l1
    · have x0 := hrow'.out.cell (i := k * 2) (by omega)
      have x1 := hrow'.out.cell (i := k * 2 + 1) (by omega)
      have n31 := fun wx : World => run_neq_slice_nil_any (P := Yba.prog) wx 31 32 none 0 0 0 0 Yba.underlying31
      have n30 := fun wx : World => run_neq_slice_nil_any (P := Yba.prog) wx 30 26 none 0 0 0 0 Yba.underlying30
      go_wp2
      refine hR.out (n - 1) _ _ (by have := hk'.out; omega) ⟨k + 1, by have := hk'.out; omega, ⟨rfl, rfl⟩, rfl, congrArg (Value.int .i64) (by omega), ?_, rfl⟩
      intro i hi
      have := hKK.out i hi
      simp only [List.mem_cons, List.not_mem_nil, or_false] at hi
      rcases hi with rfl | rfl | rfl | rfl | rfl | rfl <;> exact this

    · obtain rfl : k = l1 := by omega
      go_wp2
      refine hexit.out _ _ _ (by simp) (hnext.out _ ⟨rfl, rfl⟩ ?_)
      intro i hi
      have := hKK.out i hi
      simp only [List.mem_cons, List.not_mem_nil, or_false] at hi
      rcases hi with rfl | rfl | rfl | rfl | rfl | rfl <;> exact this


set_option maxHeartbeats 2000000 in
theorem seg21 (S : Nat) (a0 : Option Addr) (l0 c0 : Nat) (z0 : List Int) (hl0 : l0 ≤ 1024) (v : Nat → Value) (a : Act) (w : World) (Q : Exit → Act → World → Prop) (hF : Fr 299 a) (h0 : slot a 0 = .slice a0 l0 c0) (h13 : slot a 13 = .slice (some ⟨S, 0, none⟩) l0 l0) (hK : Keep [23, 24, 26, 30] v a)
    (harg : Arg .u32 w a0 l0 z0) (hrow : w.rowIs S 28 (l0 * 4) (stF z0 l0)) 
    (hnext : Hid (∀ a' q, Fr 299 a' → Keep [23, 24, 26, 30] v a' → Q .normal a' (w.drewN q))) :
    Code.wp Yba.prog (seqPart 21 (bodyOf Yba.f3)) Q a w := by
  have hrow' := hide hrow
  clear hrow
  obtain ⟨u, rfl, hu⟩ := to_lit hF
  have e0 := (hu 0 (by omega)).symm.trans h0
  have e13 := (hu 13 (by omega)).symm.trans h13
  clear hu hF h0 h13
  have hKK := hide hK
  clear hK
  conv => arg 2; whnf
  rw [e0, e13]
  clear e0 e13
  go_wp2
  refine loop_rule (fun n a w' => ∃ k q, n + k = l0 ∧ Fr 299 a ∧ slot a 0 = .slice a0 l0 c0 ∧ slot a 13 = .slice (some ⟨S, 0, none⟩) l0 l0 ∧ slot a 32 = .int .i64 (k : Nat) ∧ Keep [23, 24, 26, 30] v a ∧ w' = w.drewN q)
    l0 ?_ ?_
  · refine ⟨0, 0, rfl, ⟨rfl, rfl⟩, rfl, rfl, rfl, ?_, rfl⟩
    intro i hi
    have := hKK.out i hi
    simp only [List.mem_cons, List.not_mem_nil, or_false] at hi
    rcases hi with rfl | rfl | rfl | rfl <;> exact this

  · clear hKK u
    rintro n a w' ⟨k, q, hk, hF, h0, h13, h32, hK, rfl⟩ R hR hexit
    obtain ⟨u, rfl, hu⟩ := to_lit hF
    have e0 := (hu 0 (by omega)).symm.trans h0
    have e13 := (hu 13 (by omega)).symm.trans h13
    have e32 := (hu 32 (by omega)).symm.trans h32
    clear hu hF h0 h13 h32
    have hKK := hide hK
    clear hK
    rw [e0, e13, e32]
    clear e0 e13 e32

    have hk' := hide hk
    have hkle : k ≤ l0 := by omega
    clear hk
    by_cases hlt : k < l0
    · obtain ⟨b, off, rfl, hcell, hbs⟩ := harg k hlt
      have hklt : (k : Int) < (l0 : Int) := by omega
      have hk0 : (0 : Int) ≤ (k : Int) := by omega
      have x0 : w.cell? ⟨S, k * 4, none⟩ = some (.int .u32 (z0.getD k 0)) := by rw [hrow'.out.cell (by omega)]; simp [stF, hlt]
      have x1 : w.cell? ⟨S, k * 4 + 1, none⟩ = some (.int .i32 (k : Int)) := by
        rw [hrow'.out.cell (by omega)]
        have e1 : (k * 4 + 1) % 4 = 1 := by omega
        have e2 : (k * 4 + 1) / 4 = k := by omega
        simp [stF, e1, e2, hlt]
      have x2 : w.cell? ⟨S, k * 4 + 2, none⟩ = some (.bool true) := by
        rw [hrow'.out.cell (by omega)]
        have e1 : (k * 4 + 2) % 4 = 2 := by omega
        have e2 : (k * 4 + 2) / 4 = k := by omega
        simp [stF, e1, e2, hlt]
      generalize z0.getD k 0 = x at hcell x0
      go_wp2
      go_quiet (fail)
      go_wp2
      refine hR.out (n - 1) _ _ (by have := hk'.out; omega) ⟨k + 1, ?_, by have := hk'.out; omega, ⟨rfl, rfl⟩, rfl, rfl, congrArg (Value.int .i64) (by omega), ?_, ?_⟩
      rotate_left
      · intro i hi
        have := hKK.out i hi
        simp only [List.mem_cons, List.not_mem_nil, or_false] at hi
        rcases hi with rfl | rfl | rfl | rfl <;> exact this
      · rfl
    · obtain rfl : k = l0 := by omega
      go_wp2
      refine hexit.out _ _ _ (by simp) (hnext.out _ _ ⟨rfl, rfl⟩ ?_)
      intro i hi
      have := hKK.out i hi
      simp only [List.mem_cons, List.not_mem_nil, or_false] at hi
      rcases hi with rfl | rfl | rfl | rfl <;> exact this


set_option maxHeartbeats 2000000 in
theorem seg22 (W X G m cap : Nat) (hm : m < 8) (v : Nat → Value) (a : Act) (w : World) (Q : Exit → Act → World → Prop) (hF : Fr 299 a) (h23 : slot a 23 = .int .i64 (m : Nat)) (h26 : slot a 26 = .pointer (some ⟨X, 0, none⟩)) (h30 : slot a 30 = .pointer (some ⟨W, 0, none⟩)) (hK : Keep [24] v a)
    (hX : w.cell? ⟨X, 0, none⟩ = some (.slice (some ⟨G, 0, none⟩) (m + 1) cap)) (hG : w.cell? ⟨G, m, none⟩ = some (.pointer (some ⟨W, 0, none⟩)))
    (hnext : Hid (∀ a', Fr 299 a' → slot a' 23 = .int .i64 (m : Nat) → slot a' 26 = .pointer (some ⟨X, 0, none⟩) → Keep [24] v a' → Q .normal a' w)) :
    Code.wp Yba.prog (seqPart 22 (bodyOf Yba.f3)) Q a w := by
  have hnp := neq33
  obtain ⟨u, rfl, hu⟩ := to_lit hF
  have e23 := (hu 23 (by omega)).symm.trans h23
  have e26 := (hu 26 (by omega)).symm.trans h26
  have e30 := (hu 30 (by omega)).symm.trans h30
  clear hu hF h23 h26 h30
  have hKK := hide hK
  clear hK
  conv => arg 2; whnf
  rw [e23, e26, e30]
  clear e23 e26 e30

  go_wp2
  refine hnext.out _ ⟨rfl, rfl⟩ rfl rfl ?_
  intro i hi
  have := hKK.out i hi
  simp only [List.mem_cons, List.not_mem_nil, or_false] at hi
  subst hi
  exact this


set_option maxHeartbeats 2000000 in
theorem seg23 (X G T m cap : Nat) (hm : m < 8) (g : Nat → Addr) (v : Nat → Value) (a : Act) (w : World) (Q : Exit → Act → World → Prop) (hF : Fr 299 a) (h23 : slot a 23 = .int .i64 (m : Nat)) (h24 : slot a 24 = .slice (some ⟨T, 0, none⟩) m m) (h26 : slot a 26 = .pointer (some ⟨X, 0, none⟩))
    (hX : w.cell? ⟨X, 0, none⟩ = some (.slice (some ⟨G, 0, none⟩) (m + 1) cap)) (hG : ∀ i, i < m → w.cell? ⟨G, i, none⟩ = some (.pointer (some (g i)))) (hT : ∀ i, i < m → w.cell? ⟨T, i, none⟩ = some (.pointer (some (g i))))
    (hnext : Hid (∀ a' q, Fr 299 a' → Q .normal a' (w.drewN q))) :
    Code.wp Yba.prog (seqPart 23 (bodyOf Yba.f3)) Q a w := by
  have hnp := neq33
  obtain ⟨u, rfl, hu⟩ := to_lit hF
  have e23 := (hu 23 (by omega)).symm.trans h23
  have e24 := (hu 24 (by omega)).symm.trans h24
  have e26 := (hu 26 (by omega)).symm.trans h26
  clear hu hF h23 h24 h26
  conv => arg 2; whnf
  rw [e23, e24, e26]
  clear e23 e24 e26

  go_wp2
  refine loop_rule (fun n a w' => ∃ k q, n + k = m ∧ Fr 299 a ∧ slot a 23 = .int .i64 (m : Nat) ∧ slot a 24 = .slice (some ⟨T, 0, none⟩) m m ∧ slot a 26 = .pointer (some ⟨X, 0, none⟩) ∧ slot a 33 = .int .i64 (k : Nat) ∧ w' = w.drewN q)
    m ?_ ?_
  · exact ⟨0, 0, rfl, ⟨rfl, rfl⟩, rfl, rfl, rfl, rfl, rfl⟩
  · clear u
    rintro n a w' ⟨k, q, hk, hF, h23, h24, h26, h33, rfl⟩ R hR hexit
    obtain ⟨u, rfl, hu⟩ := to_lit hF
    have e23 := (hu 23 (by omega)).symm.trans h23
    have e24 := (hu 24 (by omega)).symm.trans h24
    have e26 := (hu 26 (by omega)).symm.trans h26
    have e33 := (hu 33 (by omega)).symm.trans h33
    clear hu hF h23 h24 h26 h33
    rw [e23, e24, e26, e33]
    clear e23 e24 e26 e33

    have hk' := hide hk
    have hkle : k ≤ m := by omega
    clear hk
    by_cases hlt : k < m
    · have hklt : (k : Int) < (m : Int) := by omega
      have hklt2 : (k : Int) < ((m + 1 : Nat) : Int) := by omega
      have hk0 : (0 : Int) ≤ (k : Int) := by omega
      have x0 := hG k hlt
      have x1 := hT k hlt
      clear hG hT
      go_wp2
      go_quiet (fail)
      go_wp2
      refine hR.out (n - 1) _ _ (by have := hk'.out; omega) ⟨k + 1, _, by have := hk'.out; omega, ⟨rfl, rfl⟩, rfl, rfl, rfl, congrArg (Value.int .i64) (by omega), rfl⟩
    · obtain rfl : k = m := by omega
      go_wp2
      exact hexit.out _ _ _ (by simp) (hnext.out _ _ ⟨rfl, rfl⟩)
end Go.Proofs.Ybulkdfzs.AR
