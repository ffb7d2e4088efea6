import Derived.Test.YbulkdfzsARs
import Derived.Test.YbulkdfzsARq
namespace Go.Proofs.Ybulkdfzs.AR
open Go.RowKit
set_option linter.unusedVariables false
set_option linter.unusedSimpArgs false
set_option maxRecDepth 100000

set_option maxHeartbeats 2000000 in
theorem seg15 (W O X B n S l0 l1 : Nat) (vu vo vout vd ve vc : Value) (f g : Nat → Value) (hn : n < 8) (v : Nat → Value) (a : Act) (w : World) (Q : Exit → Act → World → Prop) (hF : Fr 299 a) (h30 : slot a 30 = .pointer (some ⟨W, 0, none⟩)) (hK : Keep [0, 1, 13, 16, 23, 24, 26, 27] v a)
    (hW : w.heap[W]? = some (.cells #[vu, .slice (some ⟨S, 0, none⟩) l0 l0, vo, vout, vd, .slice (some ⟨O, 0, none⟩) l1 l1, ve, vc, .pointer (some ⟨X, 0, none⟩)] 43 (0, 0)))
    (hX : w.heap[X]? = some (.cells #[.slice (some ⟨B, 0, none⟩) n n] 38 (0, 0))) (hO : w.rowIs O 37 (l1 * 2) f) (hB : w.rowIs B 33 n g)
    (nWO : W ≠ O) (nWX : W ≠ X) (nWB : W ≠ B) (nOX : O ≠ X) (nOB : O ≠ B)
    (hnext : Hid (∀ a' w' G cap, Fr 299 a' → slot a' 30 = .pointer (some ⟨W, 0, none⟩) → Keep [0, 1, 13, 16, 23, 24, 26, 27] v a' → w.heap.size ≤ G →
      w'.heap[W]? = some (.cells #[.pointer none, .slice (some ⟨S, 0, none⟩) 0 l0, .map none, .pointer none, .int .i64 0, .slice (some ⟨O, 0, none⟩) 0 l1, .int .i64 0, .bool false, .pointer (some ⟨X, 0, none⟩)] 43 (0, 0)) →
      w'.cell? ⟨X, 0, none⟩ = some (.slice (some ⟨G, 0, none⟩) (n + 1) cap) → w'.rowIs O 37 (l1 * 2) (fun _ => .slice none 0 0) →
      (∀ i, i < n → w'.cell? ⟨G, i, none⟩ = some (g i)) → w'.cell? ⟨G, n, none⟩ = some (.pointer (some ⟨W, 0, none⟩)) →
      (w'.os = w.os ∧ w'.tape = w.tape ∧ w'.output = w.output ∧ w.heap.size ≤ w'.heap.size ∧ ∀ k, k < w.heap.size → k ≠ W → k ≠ O → k ≠ X → w'.heap[k]? = w.heap[k]?) → Q .normal a' w')) :
    Code.wp Yba.prog (seqPart 15 (bodyOf Yba.f3)) Q a w := by
  have hrel := hide (release_any w W O X B n l0 l0 l1 (some ⟨S, 0, none⟩) vu vo vout vd ve vc f g hn hW hX hO hB nWO nWX nWB nOX nOB)
  clear hW hX hO hB
  obtain ⟨u, rfl, hu⟩ := to_lit hF
  have e30 := (hu 30 (by omega)).symm.trans h30
  clear hu hF h30
  have hKK := hide hK
  clear hK
  conv => arg 2; whnf
  rw [e30]
  clear e30
  go_wp2_with (go_at_call 6; refine hrel.out.mono ?_; rintro e w' ⟨rfl, hpost⟩; have HP := hide hpost; clear hpost)
  obtain ⟨G, cap, p1, p2, p3, p4, p5, p6, p7⟩ := HP.out
  refine hnext.out _ _ G cap ⟨rfl, rfl⟩ rfl ?_ p1 p2 p3 p4 p5 p6 p7
  intro i hi
  have := hKK.out i hi
  simp only [List.mem_cons, List.not_mem_nil, or_false] at hi
  rcases hi with rfl | rfl | rfl | rfl | rfl | rfl | rfl | rfl <;> exact this


set_option maxHeartbeats 2000000 in
theorem seg16 (W O X S l0 l1 : Nat) (hl0 : l0 ≤ 1024) (hl1 : l1 ≤ 1024) (a0 a1 : Option Addr) (c0 c1 : Nat) (v : Nat → Value) (c : Code) (a : Act) (w : World) (Q : Exit → Act → World → Prop) (hF : Fr 299 a) (h0 : slot a 0 = .slice a0 l0 c0) (h1 : slot a 1 = .slice a1 l1 c1) (h27 : slot a 27 = .pointer (some ⟨X, 0, none⟩)) (h30 : slot a 30 = .pointer (some ⟨W, 0, none⟩)) (hK : Keep [13, 16, 23, 24, 26] v a)
    (hW : w.heap[W]? = some (.cells #[.pointer none, .slice (some ⟨S, 0, none⟩) 0 l0, .map none, .pointer none, .int .i64 0, .slice (some ⟨O, 0, none⟩) 0 l1, .int .i64 0, .bool false, .pointer (some ⟨X, 0, none⟩)] 43 (0, 0)))
    (hnext : Hid (∀ a', Fr 299 a' → slot a' 0 = .slice a0 l0 c0 → slot a' 30 = .pointer (some ⟨W, 0, none⟩) → Keep [13, 16, 23, 24, 26] v a' → c.wp Yba.prog Q a' w)) :
    Code.wp Yba.prog (Code.seq (seqPart 16 (bodyOf Yba.f3)) (Code.seq (seqPart 17 (bodyOf Yba.f3)) (Code.seq (seqPart 18 (bodyOf Yba.f3)) (Code.seq (seqPart 19 (bodyOf Yba.f3)) c)))) Q a w := by
  have d0 : w.cell? ⟨W, 0, none⟩ = some (.pointer none) := by simp [World.cell?, hW]
  have d1 : w.cell? ⟨W, 1, none⟩ = some (.slice (some ⟨S, 0, none⟩) 0 l0) := by simp [World.cell?, hW]
  have d2 : w.cell? ⟨W, 2, none⟩ = some (.map none) := by simp [World.cell?, hW]
  have d3 : w.cell? ⟨W, 3, none⟩ = some (.pointer none) := by simp [World.cell?, hW]
  have d4 : w.cell? ⟨W, 4, none⟩ = some (.int .i64 0) := by simp [World.cell?, hW]
  have d5 : w.cell? ⟨W, 5, none⟩ = some (.slice (some ⟨O, 0, none⟩) 0 l1) := by simp [World.cell?, hW]
  have d6 : w.cell? ⟨W, 6, none⟩ = some (.int .i64 0) := by simp [World.cell?, hW]
  have d7 : w.cell? ⟨W, 7, none⟩ = some (.bool false) := by simp [World.cell?, hW]
  have d8 : w.cell? ⟨W, 8, none⟩ = some (.pointer (some ⟨X, 0, none⟩)) := by simp [World.cell?, hW]
  clear hW
  obtain ⟨u, rfl, hu⟩ := to_lit hF
  have e0 := (hu 0 (by omega)).symm.trans h0
  have e1 := (hu 1 (by omega)).symm.trans h1
  have e27 := (hu 27 (by omega)).symm.trans h27
  have e30 := (hu 30 (by omega)).symm.trans h30
  clear hu hF h0 h1 h27 h30
  have hKK := hide hK
  clear hK
  rw [e0, e1, e27, e30]
  clear e0 e1 e27 e30

  conv => arg 2; arg 1; whnf
  conv => arg 2; arg 2; arg 1; whnf
  conv => arg 2; arg 2; arg 2; arg 1; whnf
  conv => arg 2; arg 2; arg 2; arg 2; arg 1; whnf
  have hnm := fun wx => run_neq_map_nil (P := Yba.prog) wx 40 26 3 none Yba.underlying40
  have hnp := neq41
  go_wp2
  refine hnext.out _ ⟨rfl, rfl⟩ rfl rfl ?_
  intro i hi
  have := hKK.out i hi
  simp only [List.mem_cons, List.not_mem_nil, or_false] at hi
  rcases hi with rfl | rfl | rfl | rfl | rfl <;> exact this

end Go.Proofs.Ybulkdfzs.AR
