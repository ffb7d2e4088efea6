import Derived.Test.YbulkdfzsARc
import Derived.Test.YbulkdfzsARs
namespace Go.Proofs.Ybulkdfzs.AR
open Go.RowKit
set_option linter.unusedVariables false
set_option linter.unusedSimpArgs false
set_option maxRecDepth 100000

set_option maxHeartbeats 2000000 in
theorem seg9 (m : Nat) (hm : m < 8) (v : Nat → Value) (a : Act) (w1 : World) (Q : Exit → Act → World → Prop) (hF : Fr 299 a) (h23 : slot a 23 = .int .i64 (m : Nat)) (hK : Keep [0, 1, 3, 4, 5, 13, 16, 24] v a)
    (hnext : Hid (∀ a' w', Fr 299 a' → slot a' 23 = .int .i64 (m : Nat) → slot a' 26 = .pointer (some ⟨w1.heap.size + 1, 0, none⟩) → Keep [0, 1, 3, 4, 5, 13, 16, 24] v a' → w'.rowIs w1.heap.size 33 m (fun _ => .pointer none) → w'.heap[w1.heap.size + 1]? = some (.cells #[.slice (some ⟨w1.heap.size, 0, none⟩) m m] 38 (0, 0)) → w'.heap.size = w1.heap.size + 2 → Below w1.heap.size w1 w' → Q .normal a' w')) :
    Code.wp Yba.prog (seqPart 9 (bodyOf Yba.f3)) Q a w1 := by
  have mk38 := make_k (P := Yba.prog) 38 33 _ 1 8 Yba.underlying38 info33 .i64 .i64 m (by omega) (by omega)
  obtain ⟨u, rfl, hu⟩ := to_lit hF
  have e23 := (hu 23 (by omega)).symm.trans h23
  clear hu hF h23
  have hKK := hide hK
  clear hK
  conv => arg 2; whnf
  rw [e23]
  clear e23
  go_wp2
  refine hnext.out _ _ ⟨rfl, rfl⟩ rfl rfl ?_ ?_ ?_ ?_ ?_
  · intro i hi
    have := hKK.out i hi
    simp only [List.mem_cons, List.not_mem_nil, or_false] at hi
    rcases hi with rfl | rfl | rfl | rfl | rfl | rfl | rfl | rfl <;> exact this

  · exact (World.rowIs_made w1 (.pointer none) m 33).alloc _
  · have := Go.Deep.blk_alloc_new (w1.alloc (Obj.cells (madeCells #[Value.pointer none] m) 33)) (Obj.cells #[Value.slice (some ⟨w1.heap.size, 0, none⟩) m m] 38)
    simpa using this
  · simp
  · exact ((Below.refl _ _).alloc (Nat.le_refl _) _).alloc (by simp) _

theorem copy_run {w : World} {B T n : Nat} {f g : Nat → Value} (hB : w.rowIs B 33 n f) (hT : w.rowIs T 33 n g) (hg : ∀ i, (g i).oneCell' = true) :
    ∃ w1, (∀ ty, (Builtin.copy_ #[38, 38] ty #[.slice (some ⟨B, 0, none⟩) n n, .slice (some ⟨T, 0, none⟩) n n]).run Yba.prog w = .ok (goInt n) w1) ∧ w1.rowIs B 33 n g ∧ w.grownBy w1 (some B) ∧ w1.heap.size = w.heap.size := by
  obtain ⟨c, hc, hcs, _⟩ := hB
  refine ⟨w.setRow B ((List.range n).map g).toArray, fun ty => ?_, ⟨_, setRow_heap w B c _ 33 (0, 0) hc, by simp, fun i hi => by simp [hi]⟩, grownBy_setRow _ _ _, by simp⟩
  have h := run_copy_row Yba.prog w 38 38 ty 33 B 0 n n ⟨T, 0, none⟩ n n c 33 ((List.range n).map g) Yba.underlying38 (by kernel_rfl) hc (by simp) (fun j u hu => old_cells hT _ rfl j u hu) (by simp [hcs]) (by
    intro u hu
    obtain ⟨j, _, rfl⟩ := List.mem_map.1 hu
    exact hg j)
  rw [h]
  have e : c.toList.drop n = [] := List.drop_eq_nil_of_le (by simp [hcs])
  simp [e]

set_option maxHeartbeats 2000000 in
theorem seg10 (X B T m : Nat) (g : Nat → Value) (hm : m < 8) (v : Nat → Value) (a : Act) (w1 : World) (Q : Exit → Act → World → Prop) (hF : Fr 299 a) (h26 : slot a 26 = .pointer (some ⟨X, 0, none⟩)) (h24 : slot a 24 = .slice (some ⟨T, 0, none⟩) m m) (hK : Keep [0, 1, 3, 4, 5, 13, 16, 23] v a)
    (hX : w1.heap[X]? = some (.cells #[.slice (some ⟨B, 0, none⟩) m m] 38 (0, 0))) (f : Nat → Value) (hB : w1.rowIs B 33 m f) (hT : w1.rowIs T 33 m g) (hg : ∀ i, (g i).oneCell' = true)
    (hnext : Hid (∀ a' w', Fr 299 a' → slot a' 26 = .pointer (some ⟨X, 0, none⟩) → slot a' 24 = .slice (some ⟨T, 0, none⟩) m m → Keep [0, 1, 3, 4, 5, 13, 16, 23] v a' → w'.rowIs B 33 m g → w1.grownBy w' (some B) → w'.heap.size = w1.heap.size → Q .normal a' w')) :
    Code.wp Yba.prog (seqPart 10 (bodyOf Yba.f3)) Q a w1 := by
  obtain ⟨w2, hcp, hB2, hg2, hs2⟩ := copy_run hB hT hg
  have cX : w1.cell? ⟨X, 0, none⟩ = some (.slice (some ⟨B, 0, none⟩) m m) := by simp [World.cell?, hX]
  have HH := hide (And.intro hB2 (And.intro hg2 hs2))
  clear hX hB hT hB2 hg2 hs2 hg
  obtain ⟨u, rfl, hu⟩ := to_lit hF
  have e24 := (hu 24 (by omega)).symm.trans h24
  have e26 := (hu 26 (by omega)).symm.trans h26
  clear hu hF h24 h26
  have hKK := hide hK
  clear hK
  conv => arg 2; whnf
  rw [e24, e26]
  clear e24 e26
  go_wp2
  obtain ⟨hB2, hg2, hs2⟩ := HH.out
  refine hnext.out _ _ ⟨rfl, rfl⟩ rfl rfl ?_ hB2 hg2 hs2
  intro i hi
  have := hKK.out i hi
  simp only [List.mem_cons, List.not_mem_nil, or_false] at hi
  rcases hi with rfl | rfl | rfl | rfl | rfl | rfl | rfl | rfl <;> exact this


theorem alloc_setLast (w : World) (o o' : Obj) : ({ w.alloc o with heap := (w.alloc o).heap.setIfInBounds w.heap.size o' } : World) = w.alloc o' := by
  have h : (w.heap.push o).setIfInBounds w.heap.size o' = w.heap.push o' := by
    apply Array.ext_getElem?
    intro i
    simp only [Array.getElem?_setIfInBounds, Array.getElem?_push]
    by_cases e : i = w.heap.size
    · subst e; simp
    · simp [e, Ne.symm e]
  show World.mk ((w.heap.push o).setIfInBounds w.heap.size o') w.tape w.drawn w.os w.output = World.mk (w.heap.push o') w.tape w.drawn w.os w.output
  rw [h]
theorem ins_run (w : World) : (Instr.mapUpdate 40 (.map (some w.heap.size)) (.int .u32 1) (.int .i64 0)).run Yba.prog (w.alloc (.map #[] 0)) = .ok () (w.alloc (.map #[⟨.int .u32 1, .int .i64 0, 0⟩] 1)) := by
  have hb : (w.alloc (.map #[] 0)).heap[w.heap.size]? = some (.map #[] 0) := Go.Deep.blk_alloc_new _ _
  have hk : (Instr.checkKey false 10000 26 (.int .u32 1)).run Yba.prog (w.alloc (.map #[] 0)) = .ok () (w.alloc (.map #[] 0)) := MapKept.run_checkKey Yba.underlying26 (by simp [MapKept.IsKey]) false 9999
  have hs := MapKept.run_setObj_map (P := Yba.prog) (.map #[⟨.int .u32 1, .int .i64 0, 0⟩] 1) hb
  simp [Instr.mapUpdate, run_underlying Yba.underlying40, run_underlying Yba.underlying26, MapKept.run_getObj_map hb, hk, Instr.findKey, Instr.findNow, hs, Result.andThen]
  exact alloc_setLast w _ _

theorem new4 (w : World) (x y z : Obj) (t : Obj) : ((((w.alloc x).alloc y).alloc z).alloc t).heap[w.heap.size + 3]? = some t := by
  have := Go.Deep.blk_alloc_new (((w.alloc x).alloc y).alloc z) t
  simpa using this
theorem below4 (w : World) (x y z t : Obj) : Below w.heap.size w ((((w.alloc x).alloc y).alloc z).alloc t) := by
  have h1 := (Below.refl w.heap.size w).alloc (Nat.le_refl _) x
  have h2 := h1.alloc (by simp) y
  have h3 := h2.alloc (by simp; omega) z
  exact h3.alloc (by simp; omega) t

set_option maxHeartbeats 2000000 in
theorem seg11 (X S O l0 l1 : Nat) (depth fin : Int) (cnt : Bool) (c : Code) (v : Nat → Value) (a : Act) (w1 : World) (Q : Exit → Act → World → Prop) (hF : Fr 299 a) (h3 : slot a 3 = .int .i64 depth) (h4 : slot a 4 = .int .i64 fin) (h5 : slot a 5 = .bool cnt) (h13 : slot a 13 = .slice (some ⟨S, 0, none⟩) l0 l0) (h16 : slot a 16 = .slice (some ⟨O, 0, none⟩) l1 l1) (h26 : slot a 26 = .pointer (some ⟨X, 0, none⟩)) (hK : Keep [0, 1, 23, 24] v a)
    (hnext : Hid (∀ a' w', Fr 299 a' → slot a' 13 = .slice (some ⟨S, 0, none⟩) l0 l0 → slot a' 16 = .slice (some ⟨O, 0, none⟩) l1 l1 → slot a' 26 = .pointer (some ⟨X, 0, none⟩) → slot a' 27 = .pointer (some ⟨X, 0, none⟩) → slot a' 30 = .pointer (some ⟨w1.heap.size + 3, 0, none⟩) → Keep [0, 1, 23, 24] v a' →
      w'.heap[w1.heap.size + 3]? = some (.cells #[.pointer (some ⟨w1.heap.size, 0, none⟩), .slice (some ⟨S, 0, none⟩) l0 l0, .map (some (w1.heap.size + 1 + 1)), .pointer (some ⟨w1.heap.size + 1, 0, none⟩), .int .i64 depth, .slice (some ⟨O, 0, none⟩) l1 l1, .int .i64 fin, .bool cnt, .pointer (some ⟨X, 0, none⟩)] 43 (0, 0)) →
      Below w1.heap.size w1 w' → c.wp Yba.prog Q a' w')) :
    Code.wp Yba.prog (Code.seq (seqPart 11 (bodyOf Yba.f3)) (Code.seq (seqPart 12 (bodyOf Yba.f3)) (Code.seq (seqPart 13 (bodyOf Yba.f3)) (Code.seq (seqPart 14 (bodyOf Yba.f3)) c)))) Q a w1 := by
  obtain ⟨u, rfl, hu⟩ := to_lit hF
  have e3 := (hu 3 (by omega)).symm.trans h3
  have e4 := (hu 4 (by omega)).symm.trans h4
  have e5 := (hu 5 (by omega)).symm.trans h5
  have e13 := (hu 13 (by omega)).symm.trans h13
  have e16 := (hu 16 (by omega)).symm.trans h16
  have e26 := (hu 26 (by omega)).symm.trans h26
  clear hu hF h3 h4 h5 h13 h16 h26
  have hKK := hide hK
  clear hK
  rw [e3, e4, e5, e13, e16, e26]
  clear e3 e4 e5 e13 e16 e26

  conv => arg 2; arg 1; whnf
  conv => arg 2; arg 2; arg 1; whnf
  conv => arg 2; arg 2; arg 2; arg 1; whnf
  conv => arg 2; arg 2; arg 2; arg 2; arg 1; whnf
  have hmm := @run_makeMap Yba.prog
  have hins : ∀ x y : Obj, (Instr.mapUpdate 40 (.map (some (w1.heap.size + 1 + 1))) (.int .u32 1) (.int .i64 0)).run Yba.prog (((w1.alloc x).alloc y).alloc (.map #[] 0)) = _ := fun x y => by simpa using ins_run ((w1.alloc x).alloc y)
  go_wp2
  refine hnext.out _ _ ⟨rfl, rfl⟩ rfl rfl rfl rfl rfl ?_ ?_ ?_
  · intro i hi
    have := hKK.out i hi
    simp only [List.mem_cons, List.not_mem_nil, or_false] at hi
    rcases hi with rfl | rfl | rfl | rfl <;> exact this

  · exact new4 _ _ _ _ _
  · exact below4 _ _ _ _ _
end Go.Proofs.Ybulkdfzs.AR
