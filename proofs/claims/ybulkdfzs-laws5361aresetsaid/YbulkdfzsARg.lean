import Derived.Test.YbulkdfzsARBase
namespace Go.Proofs.Ybulkdfzs.AR
open Go.RowKit
set_option linter.unusedVariables false
set_option linter.unusedSimpArgs false
set_option maxRecDepth 100000

set_option maxHeartbeats 2000000 in
theorem seg0 (a0 a1 : Option Addr) (l0 c0 l1 c1 : Nat) (hl0 : l0 ≤ 1024) (hl1 : l1 ≤ 1024) (v : Nat → Value) (c : Code) (a : Act) (w : World) (Q : Exit → Act → World → Prop) (hF : Fr 299 a) (h0 : slot a 0 = .slice a0 l0 c0) (h1 : slot a 1 = .slice a1 l1 c1) (hK : Keep [2, 3, 4, 5] v a)
    (hnext : Hid (∀ a', Fr 299 a' → slot a' 0 = .slice a0 l0 c0 → slot a' 1 = .slice a1 l1 c1 → slot a' 13 = .slice (some ⟨w.heap.size, 0, none⟩) l0 l0 → Keep [2, 3, 4, 5] v a' → c.wp Yba.prog Q a' (w.alloc (.cells (madeCells #[.int .u32 0, .int .i32 0, .bool false, .bool false] (l0 * 4)) 28)))) :
    Code.wp Yba.prog (Code.seq (seqPart 0 (bodyOf Yba.f3)) (Code.seq (seqPart 1 (bodyOf Yba.f3)) (Code.seq (seqPart 2 (bodyOf Yba.f3)) c))) Q a w := by
  have mk24 := make_k (P := Yba.prog) 24 28 _ 4 12 Yba.underlying24 info28 .i64 .i64 l0 (by omega) (by omega)
  obtain ⟨u, rfl, hu⟩ := to_lit hF
  have e0 := (hu 0 (by omega)).symm.trans h0
  have e1 := (hu 1 (by omega)).symm.trans h1
  clear hu hF h0 h1
  have hKK := hide hK
  clear hK
  rw [e0, e1]
  clear e0 e1

  conv => arg 2; arg 1; whnf
  conv => arg 2; arg 2; arg 1; whnf
  conv => arg 2; arg 2; arg 2; arg 1; whnf
  go_wp2
  refine hnext.out _ ⟨rfl, rfl⟩ rfl rfl rfl ?_
  intro i hi
  have := hKK.out i hi
  simp only [List.mem_cons, List.not_mem_nil, or_false] at hi
  rcases hi with rfl | rfl | rfl | rfl <;> exact this


set_option maxHeartbeats 2000000 in
theorem seg4 (a1 : Option Addr) (l1 c1 : Nat) (hl1 : l1 ≤ 1024) (v : Nat → Value) (a : Act) (w : World) (Q : Exit → Act → World → Prop) (hF : Fr 299 a) (h1 : slot a 1 = .slice a1 l1 c1) (hK : Keep [0, 2, 3, 4, 5, 13] v a)
    (hnext : Hid (∀ a', Fr 299 a' → slot a' 1 = .slice a1 l1 c1 → slot a' 16 = .slice (some ⟨w.heap.size, 0, none⟩) l1 l1 → Keep [0, 2, 3, 4, 5, 13] v a' → Q .normal a' (w.alloc (.cells (madeCells #[.slice none 0 0, .slice none 0 0] (l1 * 2)) 37)))) :
    Code.wp Yba.prog (seqPart 4 (bodyOf Yba.f3)) Q a w := by
  have mk29 := make_k (P := Yba.prog) 29 37 _ 2 48 Yba.underlying29 info37 .i64 .i64 l1 (by omega) (by omega)
  obtain ⟨u, rfl, hu⟩ := to_lit hF
  have e1 := (hu 1 (by omega)).symm.trans h1
  clear hu hF h1
  have hKK := hide hK
  clear hK
  conv => arg 2; whnf
  rw [e1]
  clear e1

  go_wp2
  refine hnext.out _ ⟨rfl, rfl⟩ rfl rfl ?_
  intro i hi
  have := hKK.out i hi
  simp only [List.mem_cons, List.not_mem_nil, or_false] at hi
  rcases hi with rfl | rfl | rfl | rfl | rfl | rfl <;> exact this


set_option maxHeartbeats 2000000 in
theorem seg6 (x : Int) (hx0 : 0 ≤ x) (hx : x ≤ 255) (m : Nat) (hm : x % 8 = (m : Int)) (v : Nat → Value) (c : Code) (a : Act) (w : World) (Q : Exit → Act → World → Prop) (hF : Fr 299 a) (h2 : slot a 2 = .int .u8 x) (hK : Keep [0, 1, 3, 4, 5, 13, 16] v a)
    (hnext : Hid (∀ a', Fr 299 a' → slot a' 2 = .int .u8 x → slot a' 23 = .int .i64 (m : Int) → slot a' 24 = .slice (some ⟨w.heap.size, 0, none⟩) m m → Keep [0, 1, 3, 4, 5, 13, 16] v a' → c.wp Yba.prog Q a' (w.alloc (.cells (madeCells #[.pointer none] m) 33)))) :
    Code.wp Yba.prog (Code.seq (seqPart 6 (bodyOf Yba.f3)) (Code.seq (seqPart 7 (bodyOf Yba.f3)) c)) Q a w := by
  have mk38 := make_k (P := Yba.prog) 38 33 _ 1 8 Yba.underlying38 info33 .i64 .i64 m (by omega) (by omega)
  obtain ⟨u, rfl, hu⟩ := to_lit hF
  have e2 := (hu 2 (by omega)).symm.trans h2
  clear hu hF h2
  have hKK := hide hK
  clear hK
  rw [e2]
  clear e2

  conv => arg 2; arg 1; whnf
  conv => arg 2; arg 2; arg 1; whnf
  go_wp2
  refine hnext.out _ ⟨rfl, rfl⟩ rfl (congrArg (Value.int .i64) hm) rfl ?_
  intro i hi
  have := hKK.out i hi
  simp only [List.mem_cons, List.not_mem_nil, or_false] at hi
  rcases hi with rfl | rfl | rfl | rfl | rfl | rfl | rfl <;> exact this


set_option maxHeartbeats 2000000 in
theorem seg24 (a : Act) (w : World) (R : Ending → World → Prop) (hF : Fr 299 a) (hR : Hid (R (.returned (.bool true)) w)) :
    Code.wp Yba.prog (seqRest 24 (bodyOf Yba.f3)) (bodyPost Yba.prog Yba.f3 R) a w := by
  obtain ⟨u, rfl, hu⟩ := to_lit hF
  clear hu hF
  conv => arg 2; whnf
  go_wp2
  exact hR.out

/-- THE EARLY WAY: a slice of more than 1024 elements. -/
theorem walk_big (a0 : Option Addr) (len0 cap0 : Nat) (a1 : Option Addr) (len1 cap1 : Nat) (a2 a3 a4 : Int) (a5 : Bool) (w : World) (h : ¬ (len0 ≤ 1024 ∧ len1 ≤ 1024)) :
    Calls Yba.prog 3 #[.slice a0 len0 cap0, .slice a1 len1 cap1, .int .u8 a2, .int .i64 a3, .int .i64 a4, .bool a5] w fun e w' => e = .returned (.bool true) ∧ Below w.heap.size w w' := by
  by_cases h0 : len0 ≤ 1024
  · have h1 : ¬ len1 ≤ 1024 := fun h1 => h ⟨h0, h1⟩
    have k0 : ¬ (1024 : Int) < (len0 : Int) := by omega
    have k1 : (1024 : Int) < (len1 : Int) := by omega
    clear h h0 h1
    go_enter Yba.func3, Yba.ntmps3
    go_wp2
    go_ret
    exact ⟨rfl, Below.refl _ _⟩
  · have k0 : (1024 : Int) < (len0 : Int) := by omega
    clear h h0
    go_enter Yba.func3, Yba.ntmps3
    go_wp2
    go_ret
    exact ⟨rfl, Below.refl _ _⟩
end Go.Proofs.Ybulkdfzs.AR
