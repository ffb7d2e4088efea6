import Derived.Test.YbulkdfzsARr
import Derived.BigRegion
namespace Go.Proofs.Ybulkdfzs.AR
open Go.RowKit
set_option linter.unusedVariables false
set_option linter.unusedSimpArgs false
set_option maxRecDepth 100000

theorem blk_set {w : World} {W : Nat} {c : Array Value} {t : TypeId} {fr : Nat × Nat} (h : w.heap[W]? = some (.cells c t fr)) (i : Nat) (v : Value) : (w.setCell ⟨W, i, none⟩ v).heap[W]? = some (.cells (c.setIfInBounds i v) t fr) := by
  simp [World.setCell, Array.getElem?_modify, h]
theorem grown_set {w w' : World} {W : Nat} (h : w.grownBy w' (some W)) (i : Nat) (v : Value) : w.grownBy (w'.setCell ⟨W, i, none⟩ v) (some W) :=
  ⟨h.os, h.tape, h.output, by rw [size_setCell]; exact h.size, fun k hk hne => (Below.heap_setCell w' ⟨W, i, none⟩ v k (fun e => hne (by rw [e]))).trans (h.block k hk hne)⟩
theorem grown_drew {w w' : World} {r : Option Nat} (h : w.grownBy w' r) : w.grownBy w'.drew r := ⟨h.os, h.tape, h.output, h.size, h.block⟩

theorem heap_drew (w : World) : w.drew.heap = w.heap := rfl
theorem blk9 {w : World} {W : Nat} {t : TypeId} {x0 x1 x2 x3 x4 x5 x6 x7 x8 : Value} (h : w.heap[W]? = some (.cells #[x0, x1, x2, x3, x4, x5, x6, x7, x8] t (0, 0))) (y0 y1 y2 y3 y4 y5 y6 y7 y8 : Value) :
    (((((((((w.setCell ⟨W, 0, none⟩ y0).setCell ⟨W, 1, none⟩ y1).setCell ⟨W, 2, none⟩ y2).setCell ⟨W, 3, none⟩ y3).setCell ⟨W, 4, none⟩ y4).setCell ⟨W, 5, none⟩ y5).setCell ⟨W, 6, none⟩ y6).setCell ⟨W, 7, none⟩ y7).setCell ⟨W, 8, none⟩ y8).drew.heap[W]? = some (.cells #[y0, y1, y2, y3, y4, y5, y6, y7, y8] t (0, 0)) := by
  have k8 := blk_set (blk_set (blk_set (blk_set (blk_set (blk_set (blk_set (blk_set (blk_set h 0 y0) 1 y1) 2 y2) 3 y3) 4 y4) 5 y5) 6 y6) 7 y7) 8 y8
  rw [heap_drew]
  rw [k8]
  simp
theorem grown9a (w : World) (W : Nat) (y0 y1 y2 y3 y4 y5 y6 y7 y8 : Value) : w.grownBy (((((((((w.setCell ⟨W, 0, none⟩ y0).setCell ⟨W, 1, none⟩ y1).setCell ⟨W, 2, none⟩ y2).setCell ⟨W, 3, none⟩ y3).setCell ⟨W, 4, none⟩ y4).setCell ⟨W, 5, none⟩ y5).setCell ⟨W, 6, none⟩ y6).setCell ⟨W, 7, none⟩ y7).setCell ⟨W, 8, none⟩ y8) (some W) := by
  have k0 := grown_set (World.grownBy.refl w (some W)) 0 y0
  have k1 := grown_set k0 1 y1
  have k2 := grown_set k1 2 y2
  have k3 := grown_set k2 3 y3
  have k4 := grown_set k3 4 y4
  have k5 := grown_set k4 5 y5
  have k6 := grown_set k5 6 y6
  have k7 := grown_set k6 7 y7
  have k8 := grown_set k7 8 y8
  exact k8
theorem grown9 (w : World) (W : Nat) (y0 y1 y2 y3 y4 y5 y6 y7 y8 : Value) : w.grownBy (((((((((w.setCell ⟨W, 0, none⟩ y0).setCell ⟨W, 1, none⟩ y1).setCell ⟨W, 2, none⟩ y2).setCell ⟨W, 3, none⟩ y3).setCell ⟨W, 4, none⟩ y4).setCell ⟨W, 5, none⟩ y5).setCell ⟨W, 6, none⟩ y6).setCell ⟨W, 7, none⟩ y7).setCell ⟨W, 8, none⟩ y8).drew (some W) := by
  exact grown_drew (grown9a w W y0 y1 y2 y3 y4 y5 y6 y7 y8)

set_option maxHeartbeats 1000000 in
theorem rel1 (w1 : World) (W O X sn sc on : Nat) (sA : Option Addr) (vu vo vout vd ve vc : Value) (a : Act) (Q : Exit → Act → World → Prop) (hF : Fr 37 a) (h0 : slot a 0 = .pointer (some ⟨W, 0, none⟩))
    (hW1 : w1.heap[W]? = some (.cells #[vu, .slice sA sn sc, vo, vout, vd, .slice (some ⟨O, 0, none⟩) on on, ve, vc, .pointer (some ⟨X, 0, none⟩)] 43 (0, 0)))
    (hnext : Hid (∀ a' w', Fr 37 a' → slot a' 0 = .pointer (some ⟨W, 0, none⟩) → w'.heap[W]? = some (.cells #[.pointer none, .slice sA 0 sc, .map none, .pointer none, .int .i64 0, .slice (some ⟨O, 0, none⟩) 0 on, .int .i64 0, .bool false, .pointer (some ⟨X, 0, none⟩)] 43 (0, 0)) → w1.grownBy w' (some W) → Q .normal a' w')) :
    Code.wp Yba.prog (seqPart 1 (bodyOf Yba.f6)) Q a w1 := by
  obtain ⟨u, rfl, hu⟩ := to_lit37 hF
  have e0 := (hu 0 (by omega)).symm.trans h0
  clear hu hF h0
  conv => arg 2; whnf
  rw [e0]
  clear e0
  refine wp_plainly ?_
  have d0 : w1.cell? ⟨W, 0, none⟩ = some vu := by simp [World.cell?, hW1]
  have d1 : w1.cell? ⟨W, 1, none⟩ = some (.slice sA sn sc) := by simp [World.cell?, hW1]
  have d2 : w1.cell? ⟨W, 2, none⟩ = some vo := by simp [World.cell?, hW1]
  have d3 : w1.cell? ⟨W, 3, none⟩ = some vout := by simp [World.cell?, hW1]
  have d4 : w1.cell? ⟨W, 4, none⟩ = some vd := by simp [World.cell?, hW1]
  have d5 : w1.cell? ⟨W, 5, none⟩ = some (.slice (some ⟨O, 0, none⟩) on on) := by simp [World.cell?, hW1]
  have d6 : w1.cell? ⟨W, 6, none⟩ = some ve := by simp [World.cell?, hW1]
  have d7 : w1.cell? ⟨W, 7, none⟩ = some vc := by simp [World.cell?, hW1]
  have d8 : w1.cell? ⟨W, 8, none⟩ = some (.pointer (some ⟨X, 0, none⟩)) := by simp [World.cell?, hW1]
  have fz : ∀ i, w1.frozen? ⟨W, i, none⟩ = false := fun i => by simp [World.frozen?, hW1]
  have HH := hide hW1
  clear hW1
  go_region
  refine hnext.out _ _ ⟨rfl, rfl⟩ rfl ?_ ?_
  · exact blk9 HH.out _ _ _ _ _ _ _ _ _
  · exact grown9 w1 W _ _ _ _ _ _ _ _ _

set_option maxHeartbeats 1000000 in
/-- WHAT release DOES. -/
theorem release_any (w : World) (W O X B n sn sc on : Nat) (sA : Option Addr) (vu vo vout vd ve vc : Value) (f g : Nat → Value) (hn : n < 8)
    (hW : w.heap[W]? = some (.cells #[vu, .slice sA sn sc, vo, vout, vd, .slice (some ⟨O, 0, none⟩) on on, ve, vc, .pointer (some ⟨X, 0, none⟩)] 43 (0, 0)))
    (hX : w.heap[X]? = some (.cells #[.slice (some ⟨B, 0, none⟩) n n] 38 (0, 0))) (hO : w.rowIs O 37 (on * 2) f) (hB : w.rowIs B 33 n g)
    (nWO : W ≠ O) (nWX : W ≠ X) (nWB : W ≠ B) (nOX : O ≠ X) (nOB : O ≠ B) :
    Calls Yba.prog 6 #[.pointer (some ⟨W, 0, none⟩)] w fun e w' => e = .returned (.tuple #[]) ∧ ∃ G cap, w.heap.size ≤ G ∧
      w'.heap[W]? = some (.cells #[.pointer none, .slice sA 0 sc, .map none, .pointer none, .int .i64 0, .slice (some ⟨O, 0, none⟩) 0 on, .int .i64 0, .bool false, .pointer (some ⟨X, 0, none⟩)] 43 (0, 0)) ∧
      w'.cell? ⟨X, 0, none⟩ = some (.slice (some ⟨G, 0, none⟩) (n + 1) cap) ∧ w'.rowIs O 37 (on * 2) (fun _ => .slice none 0 0) ∧
      (∀ i, i < n → w'.cell? ⟨G, i, none⟩ = some (g i)) ∧ w'.cell? ⟨G, n, none⟩ = some (.pointer (some ⟨W, 0, none⟩)) ∧
      (w'.os = w.os ∧ w'.tape = w.tape ∧ w'.output = w.output ∧ w.heap.size ≤ w'.heap.size ∧ ∀ k, k < w.heap.size → k ≠ W → k ≠ O → k ≠ X → w'.heap[k]? = w.heap[k]?) := by
  obtain ⟨w1, hcl, hO1, hg1, hsz1⟩ := clear_run hO
  have hWs := (Array.getElem?_eq_some_iff.1 hW).1
  have hXs := (Array.getElem?_eq_some_iff.1 hX).1
  have hW1 : w1.heap[W]? = _ := (hg1.block W hWs (by simpa using nWO)).trans hW
  have hX1 : w1.heap[X]? = _ := (hg1.block X hXs (by simpa using Ne.symm nOX)).trans hX
  have hB1 := hB.of_block (hg1.block B hB.lt (by simpa using Ne.symm nOB))
  refine calls_of_wp Yba.func6 rfl ?_
  have hbody : (bodyOf Yba.f6) = (Code.seq (seqPart 0 (bodyOf Yba.f6)) (Code.seq (seqPart 1 (bodyOf Yba.f6)) (seqRest 2 (bodyOf Yba.f6)))) := rfl
  show Code.wp Yba.prog (bodyOf Yba.f6) _ _ _
  rw [hbody]
  refine wp_seq (wp_mono (Q := Exit.then (fun a' w' => w' = w1 ∧ Fr 37 a' ∧ slot a' 0 = .pointer (some ⟨W, 0, none⟩)) (fun _ _ _ => False)) ?_ ?_)
  · have c5 : w.cell? ⟨W, 5, none⟩ = some (.slice (some ⟨O, 0, none⟩) on on) := by simp [World.cell?, hW]
    clear hW hX hO hB hW1 hX1 hO1 hB1 hg1 hsz1
    conv => arg 2; whnf
    simp only [Yba.ntmps6, List.size_toArray, List.length_cons, List.length_nil, Nat.reduceAdd, Nat.reduceSub, Array.replicate_succ, Array.replicate_zero, List.push_toArray, List.append_toArray, List.nil_append, List.cons_append]
    go_wp2
    exact ⟨trivial, ⟨rfl, rfl⟩, rfl⟩
  · intro e a1 w2 h
    cases e with
    | normal =>
      obtain ⟨rfl, hF, h0⟩ := h
      refine wp_seq (rel1 w2 W O X sn sc on sA vu vo vout vd ve vc a1 _ hF h0 hW1 (hide ?_))
      intro a2 w3 hF2 h02 hW2 hg2
      have hX2 : w3.heap[X]? = _ := (hg2.block X (by rw [hsz1]; exact hXs) (by simpa using Ne.symm nWX)).trans hX1
      have hB2 := hB1.of_block (hg2.block B hB1.lt (by simpa using Ne.symm nWB))
      have hO2 := hO1.of_block (hg2.block O hO1.lt (by simpa using Ne.symm nWO))
      have hW2s := (Array.getElem?_eq_some_iff.1 hW2).1
      have hX2s := (Array.getElem?_eq_some_iff.1 hX2).1
      refine rel2 w3 W X B n g hn a2 _ hF2 h02 (by simp [World.cell?, hW2]) (by simp [World.cell?, hX2]) (by simp [World.frozen?, hX2]) hB2 hW2s hX2s (hide ?_)
      intro a3 w4 G cap hd hG hXc hGc hGn hg3
      refine bodyPost_end (results_none rfl _ _ _) hd ⟨rfl, G, cap, ?_, ?_, hXc, ?_, hGc, hGn, ?_⟩
      · have := hg2.size; omega
      · exact (hg3.block W hW2s (by simpa using nWX)).trans hW2
      · exact hO2.of_block (hg3.block O hO2.lt (by simpa using nOX))
      · refine ⟨hg3.os.trans (hg2.os.trans hg1.os), hg3.tape.trans (hg2.tape.trans hg1.tape), hg3.output.trans (hg2.output.trans hg1.output), by have := hg3.size; have := hg2.size; omega, fun k hk n1 n2 n3 => ?_⟩
        exact (hg3.block k (by have := hg2.size; omega) (by simpa using n3)).trans ((hg2.block k (by omega) (by simpa using n1)).trans (hg1.block k hk (by simpa using n2)))
    | _ => exact h.elim
end Go.Proofs.Ybulkdfzs.AR
