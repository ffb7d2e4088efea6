import Derived.Test.YbulkdfzsARBase
import Derived.Deep.RegionHeld3
import Derived.BigRegion
import Derived.Deep.AppendLies
import Derived.Deep.RegionLawGrows
import Derived.Laws.CopyRow
namespace Go.Proofs.Ybulkdfzs.AR
open Go.RowKit
set_option linter.unusedVariables false
set_option linter.unusedSimpArgs false
set_option maxRecDepth 100000

theorem grownBy_setRow (w : World) (g : Nat) (cs : Array Value) : w.grownBy (w.setRow g cs) (some g) :=
  ⟨rfl, rfl, rfl, by simp, fun k _ h => setRow_other w g k cs (fun e => h (by rw [e]))⟩

/-- 'clear' of a slice that is a whole row. -/
theorem clear_run {w : World} {O n : Nat} {f : Nat → Value} (h : w.rowIs O 37 (n * 2) f) :
    ∃ w1, (∀ ty, (Builtin.clear_ #[29] ty #[.slice (some ⟨O, 0, none⟩) n n]).run Yba.prog w = .ok (.tuple #[]) w1) ∧ w1.rowIs O 37 (n * 2) (fun _ => .slice none 0 0) ∧ w.grownBy w1 (some O) ∧ w1.heap.size = w.heap.size := by
  obtain ⟨i, hi, hz, hs, hby⟩ := info_parts info37
  by_cases hn : n = 0
  · subst hn
    refine ⟨w, fun ty => ?_, ?_, World.grownBy.refl _ _, rfl⟩
    · simp [Builtin.clear_, run_underlying Yba.underlying29]
    · exact h.congr (fun i hi => by omega)
  · obtain ⟨c, hc, hcs, _⟩ := h
    have hzc : (Builtin.zeroCells #[Value.slice none 0 0, Value.slice none 0 0] n).toList = List.replicate (n * 2) (Value.slice none 0 0) := by
      apply List.ext_getElem
      · simp [Builtin.zeroCells]
      · intro j h1 h2
        simp [Builtin.zeroCells]
        have c : j % 2 = 0 ∨ j % 2 = 1 := by omega
        rcases c with c | c <;> simp [c]
    have hst := run_storeCells_from (P := Yba.prog) O 37 (List.replicate (n * 2) (Value.slice none 0 0)) 0 c w hc (by simp [hcs]) (by intro v hv; rw [List.eq_of_mem_replicate hv]; rfl)
    refine ⟨w.setRow O ((c.toList.take 0 ++ List.replicate (n * 2) (Value.slice none 0 0)).toArray), fun ty => ?_, ?_, ?_, ?_⟩
    · obtain ⟨n', rfl⟩ : ∃ n', n = n' + 1 := ⟨n - 1, by omega⟩
      simp only [Builtin.clear_]
      simp [run_underlying Yba.underlying29, zeroValue, typeInfo, hi, hz, Value.cells, hzc, hst]
    · exact ⟨_, setRow_heap w O c _ 37 (0, 0) hc, by simp, fun i hi => by simp [hi]⟩
    · exact grownBy_setRow _ _ _
    · simp

set_option maxRecDepth 100000 in
theorem to_lit37 {a : Act} (h : Fr 37 a) : ∃ u : Nat → Value, a = ⟨List.toArray (u 0 :: u 1 :: u 2 :: u 3 :: u 4 :: u 5 :: u 6 :: u 7 :: u 8 :: u 9 :: u 10 :: u 11 :: u 12 :: u 13 :: u 14 :: u 15 :: u 16 :: u 17 :: u 18 :: u 19 :: u 20 :: u 21 :: u 22 :: u 23 :: u 24 :: u 25 :: u 26 :: u 27 :: u 28 :: u 29 :: u 30 :: u 31 :: u 32 :: u 33 :: u 34 :: u 35 :: u 36 :: []), []⟩ ∧ ∀ i, i < 37 → slot a i = u i := by
  obtain ⟨t, d⟩ := a
  obtain ⟨l⟩ := t
  obtain ⟨h1, h2⟩ := h
  have hl : l.length = 37 := h1
  have hd : d = [] := h2
  subst hd
  have e := toList_range l
  rw [hl] at e
  refine ⟨fun i => l.getD i undef, ?_, fun i hi => by simp [slot]⟩
  generalize hu : (fun i => l.getD i undef) = u at e ⊢
  have e2 : (List.range 37).map u = (u 0 :: u 1 :: u 2 :: u 3 :: u 4 :: u 5 :: u 6 :: u 7 :: u 8 :: u 9 :: u 10 :: u 11 :: u 12 :: u 13 :: u 14 :: u 15 :: u 16 :: u 17 :: u 18 :: u 19 :: u 20 :: u 21 :: u 22 :: u 23 :: u 24 :: u 25 :: u 26 :: u 27 :: u 28 :: u 29 :: u 30 :: u 31 :: u 32 :: u 33 :: u 34 :: u 35 :: u 36 :: []) := by kernel_rfl
  rw [e2] at e
  rw [e]


theorem one_ptr {a : Option Addr} : ∀ u ∈ [Value.pointer a], u.oneCell' = true := by
  intro u hu
  simp only [List.mem_cons, List.not_mem_nil, or_false] at hu
  subst hu
  rfl

theorem old_cells {w : World} {B n : Nat} {g : Nat → Value} (h : w.rowIs B 33 n g) : ∀ b, some (⟨B, 0, none⟩ : Addr) = some b → ∀ j u, ((List.range n).map g)[j]? = some u → w.cell? (b.add j) = some u := by
  intro b hb j u hu
  obtain rfl := Option.some.inj hb
  have hj : j < n := by
    have := (List.getElem?_eq_some_iff.1 hu).1
    simpa using this
  have hadd : (⟨B, 0, none⟩ : Addr).add j = ⟨B, j, none⟩ := by unfold Addr.add; split <;> simp_all
  rw [hadd, h.cell hj]
  simpa [hj] using hu

theorem after_app {w w' : World} {o : Obj} {W X n : Nat} {xs : List Value} {v' s s8 : Value} (hWs : W < w.heap.size) (c8 : w.cell? ⟨W, 8, none⟩ = some s8) (hXs : X < w.heap.size) (x0 : w.cell? ⟨X, 0, none⟩ = some s) (fx : w.frozen? ⟨X, 0, none⟩ = false)
    (hown : w'.ownsRow (w.alloc o).drew.heap.size 33 1 v' (n + 1) xs) (hgrow : (w.alloc o).drew.grownBy w' none) :
    ∃ G cap, v' = .slice (some ⟨G, 0, none⟩) (n + 1) cap ∧ w'.cell? ⟨W, 8, none⟩ = some s8 ∧ w'.cell? ⟨X, 0, none⟩ = some s ∧ w'.frozen? ⟨X, 0, none⟩ = false ∧
      Hid (w.heap.size ≤ G ∧ w'.ownsRow w.heap.size 33 1 (.slice (some ⟨G, 0, none⟩) (n + 1) cap) (n + 1) xs ∧ w.grownBy w' none) := by
  have hs : (w.alloc o).drew.heap.size = w.heap.size + 1 := by show (w.heap.push o).size = _; simp
  obtain ⟨G, cap, hv, hG, hGs⟩ := hown.form (Nat.succ_pos _)
  have hX : w'.heap[X]? = w.heap[X]? := (hgrow.block X (by rw [hs]; omega) (by simp)).trans (Below.heap_alloc w o X hXs)
  have hW : w'.heap[W]? = w.heap[W]? := (hgrow.block W (by rw [hs]; omega) (by simp)).trans (Below.heap_alloc w o W hWs)
  refine ⟨G, cap, hv, (World.cell?_of_block (a := ⟨W, 8, none⟩) hW).trans c8, (World.cell?_of_block (a := ⟨X, 0, none⟩) hX).trans x0, (World.frozen?_of_block (a := ⟨X, 0, none⟩) hX).trans fx, by omega, ?_, hgrow.os, hgrow.tape, hgrow.output, by have := hgrow.size; omega, fun k hk _ => (hgrow.block k (by omega) (by simp)).trans (Below.heap_alloc w o k hk)⟩
  rw [← hv]
  obtain ⟨h1, h2⟩ := hown
  refine ⟨h1, ?_⟩
  rcases h2 with h2 | ⟨g, c, cur, e1, e2, e3⟩
  · exact Or.inl h2
  · exact Or.inr ⟨g, c, cur, e1, by omega, e3⟩

theorem rel2_end {w w' : World} {W X n : Nat} {g : Nat → Value} {G cap : Nat} {s : Value} {t : Array Value} {Q : Exit → Act → World → Prop} (hXs : X < w.heap.size)
    (HO : Hid (w.heap.size ≤ G ∧ w'.ownsRow w.heap.size 33 1 (.slice (some ⟨G, 0, none⟩) (n + 1) cap) (n + 1) ((List.range n).map g ++ [.pointer (some ⟨W, 0, none⟩)]) ∧ w.grownBy w' none)) (y1 : w'.cell? ⟨X, 0, none⟩ = some s)
    (hnext : Hid (∀ a' w' G cap, a'.defers = [] → w.heap.size ≤ G → w'.cell? ⟨X, 0, none⟩ = some (.slice (some ⟨G, 0, none⟩) (n + 1) cap) → (∀ i, i < n → w'.cell? ⟨G, i, none⟩ = some (g i)) → w'.cell? ⟨G, n, none⟩ = some (.pointer (some ⟨W, 0, none⟩)) → w.grownBy w' (some X) → Q .normal a' w')) :
    Q .normal ⟨t, []⟩ (w'.setCell ⟨X, 0, none⟩ (.slice (some ⟨G, 0, none⟩) (n + 1) cap)) := by
  obtain ⟨hG, hown, hgrow⟩ := HO.out
  have hne : (⟨X, 0, none⟩ : Addr).block ≠ G := by show X ≠ G; omega
  have hcell : ∀ j u, ((List.range n).map g ++ [Value.pointer (some ⟨W, 0, none⟩)])[j]? = some u → (w'.setCell ⟨X, 0, none⟩ (.slice (some ⟨G, 0, none⟩) (n + 1) cap)).cell? ⟨G, j, none⟩ = some u := by
    intro j u hu
    have h := hown.cells (g := G) rfl j u hu
    have hadd : (⟨G, 0, none⟩ : Addr).add j = ⟨G, j, none⟩ := by unfold Addr.add; split <;> simp_all
    rw [hadd] at h
    rw [World.cell?_setCell_far _ _ _ _ hne]
    exact h
  refine hnext.out _ _ G cap rfl hG (World.cell?_setCell_same _ _ _ y1) (fun i hi => hcell i _ (by rw [List.getElem?_append_left (by simpa using hi)]; simp [hi])) (hcell n _ (by rw [List.getElem?_append_right (by simp)]; simp)) ⟨hgrow.os, hgrow.tape, hgrow.output, by rw [size_setCell]; exact hgrow.size, fun k hk hne => ?_⟩
  have hkX : k ≠ X := fun e => hne (by rw [e])
  exact (Below.heap_setCell w' ⟨X, 0, none⟩ _ k hkX).trans (hgrow.block k hk (by simp))

set_option maxHeartbeats 1000000 in
theorem rel2 (w : World) (W X B n : Nat) (g : Nat → Value) (hn : n < 8) (a : Act) (Q : Exit → Act → World → Prop) (hF : Fr 37 a) (h0 : slot a 0 = .pointer (some ⟨W, 0, none⟩))
    (c8 : w.cell? ⟨W, 8, none⟩ = some (.pointer (some ⟨X, 0, none⟩))) (x0 : w.cell? ⟨X, 0, none⟩ = some (.slice (some ⟨B, 0, none⟩) n n)) (fx : w.frozen? ⟨X, 0, none⟩ = false) (hB : w.rowIs B 33 n g)
    (hWs : W < w.heap.size) (hXs : X < w.heap.size)
    (hnext : Hid (∀ a' w' G cap, a'.defers = [] → w.heap.size ≤ G → w'.cell? ⟨X, 0, none⟩ = some (.slice (some ⟨G, 0, none⟩) (n + 1) cap) → (∀ i, i < n → w'.cell? ⟨G, i, none⟩ = some (g i)) → w'.cell? ⟨G, n, none⟩ = some (.pointer (some ⟨W, 0, none⟩)) → w.grownBy w' (some X) → Q .normal a' w')) :
    Code.wp Yba.prog (seqRest 2 (bodyOf Yba.f6)) Q a w := by
  obtain ⟨u, rfl, hu⟩ := to_lit37 hF
  have e0 := (hu 0 (by omega)).symm.trans h0
  clear hu hF h0
  conv => arg 2; whnf
  rw [e0]
  clear e0
  obtain ⟨i0, hi, hz0, hz1, hz2⟩ := info_parts info33
  have hBB := hide hB
  clear hB
  refine wp_plainly ?_
  have hBd := hide (fun o : Obj => (hBB.out.alloc o).drew)
  go_region_law ((refine step_append_grows (by rfl) (.tmp 32) (.tmp 34) 38 (by rfl) 33 i0 (.pointer none) 1 8 Yba.underlying38 hi hz0 hz1 hz2 (by rfl) (by decide) (some ⟨B, 0, none⟩) n n ((List.range n).map g) (by rfl) (by simp) (by simp) (old_cells (hBd.out _)) _ 1 1 [.pointer (some ⟨W, 0, none⟩)] (by rfl) (by rfl) (cell_one_new _ _ _) one_ptr (by omega) (by unfold maxLen; omega) (by omega) ?_; intro v' w' hown hgrow; obtain ⟨G, cap, hv, y8, y1, y2, HO⟩ := after_app hWs c8 hXs x0 fx hown hgrow; rw [hv]; clear hown hgrow hv))
  all_goals exact rel2_end hXs HO y1 hnext
end Go.Proofs.Ybulkdfzs.AR
