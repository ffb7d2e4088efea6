/-
  slices.Clone at ID, walked; slices.Compact off the shelf. Own text.
-/
import Derived.Test.YbulkdfzsSa
import Derived.Laws.AppendOwn
import Derived.Shelf.SlicesE.Compact
import Derived.Shelf.SlicesE.Clone
import Derived.Shelf.SlGeneric
import Derived.Ground.SlgnProg
namespace Go.Proofs.Ybulkdfzs.S
open Go.RowKit Go.Proofs.Ybulkdfzs.AR Go.Shelf
set_option linter.unusedVariables false
set_option linter.unusedSimpArgs false
set_option maxRecDepth 100000
shelf_lay_g SlLaysE.n43 Slgn 43 at Yba 10 as Yba.compactL

theorem wpList_append_run {P : Program} {ops : Array Oper} {rest : List Oper} {o : Oper} {a : Act} {Q : Exit → Act → World → Prop} {w : World} (hgd : o.guard = none) (s x : Operand) (t : TypeId)
    (ho : o.op = .call { callee := .builtin .append, args := #[s, x], argTypes := #[t, t] }) (v u : Value) (hs : a.eval s = v) (hx : a.eval x = u) (v' : Value) (w' : World)
    (hr : (Builtin.append_ #[t, t] o.type #[v, u]).run P w = .ok v' w') (h : wpList P ops Q rest (a.put o.dst v') w') : wpList P ops Q (o :: rest) a w :=
  wpList_plain hgd fun K hK => by
    unfold Oper.wp execOp
    simp only [ho, resolve, invoke, builtin, Sem.run_bind, Sem.run_pure, Result.andThen_ok, List.map_toArray, List.map_cons, List.map_nil, hs, hx, hr]
    exact hK _ _ h

theorem info26' : ∃ i : TypeInfo, Yba.prog.info? 26 = some i ∧ i.zero = some (.int .u32 0) ∧ i.size = 1 ∧ i.bytes = 4 := by
  obtain ⟨i, hi, hz, hs, hby⟩ := info_parts info26
  exact ⟨i, hi, hz, hs, hby⟩

theorem add_zero_addr (b j : Nat) : (⟨b, 0, none⟩ : Addr).add j = ⟨b, j, none⟩ := by unfold Addr.add; split <;> simp_all

set_option maxHeartbeats 1000000 in
theorem clone (b C n c : Nat) (d : Nat → Nat) (w : World) (hr : w.rowIs b 26 C (row d)) (hn : n ≤ C) (hC : n ≤ 1000000) :
    Calls Yba.prog 8 #[.slice (some ⟨b, 0, none⟩) n c] w fun e w' => ∃ g cap d', e = .returned (.slice (some ⟨g, 0, none⟩) n cap) ∧ w.heap.size ≤ g ∧ n ≤ cap ∧ w'.rowIs g 26 cap (row d') ∧ (∀ t, t < n → d' t = d t) ∧ Below w.heap.size w w' := by
  have q30 : ∀ (w : World) (a : Option Addr) (n c n' c' : Nat), (binOp .eql 30 (.slice a n c) (.slice none n' c')).run Yba.prog w = .ok (.bool a.isNone) w := fun w a n c n' c' => Lib.run_eql_slice_nil w _ _ a n c n' c' Yba.underlying30
  obtain ⟨i0, hi0, hz0, hs0, hb0⟩ := info26'
  have hlt := hr.lt
  have hs1 : (w.alloc (.cells #[] 26)).heap.size = w.heap.size + 1 := by show (w.heap.push _).size = _; simp
  have hnews : ∀ j v, ((List.range n).map (row d))[j]? = some v → (w.alloc (.cells #[] 26)).cell? ((⟨b, 0, none⟩ : Addr).add j) = some v := by
    intro j v hv
    have hj : j < n := by
      have := (List.getElem?_eq_some_iff.1 hv).1
      simpa using this
    rw [add_zero_addr, (hr.alloc (.cells #[] 26)).cell (by omega)]
    simpa [hj] using hv
  have hl : ((List.range n).map (row d)).length = n * i0.size := by simp [hs0]
  replace hr := hide hr
  by_cases hn0 : n = 0
  · subst hn0
    have hrun : (Builtin.append_ #[30, 30] 30 #[.slice (some ⟨w.heap.size, 0, none⟩) 0 0, .slice (some ⟨b, 0, none⟩) 0 c]).run Yba.prog (w.alloc (.cells #[] 26)) = .ok (.slice (some ⟨w.heap.size, 0, none⟩) 0 0) ((w.alloc (.cells #[] 26)).setRow w.heap.size #[]) := by
      have h := run_append_room (P := Yba.prog) (w.alloc (.cells #[] 26)) 30 30 26 i0 Yba.underlying30 hi0 w.heap.size 0 0 #[] (Go.Deep.blk_alloc_new _ _) ⟨b, 0, none⟩ 0 c [] (by simp) (by intro j u h; simp at h) (by intro u h; simp at h) (by omega) (by simp)
      simpa using h
    replace hrun := hide hrun
    go_enter Yba.func8, Yba.ntmps8
    go_wp2_with (at_builtin; refine wpList_append_run rfl _ _ 30 rfl _ _ rfl rfl _ _ hrun.out ?_)
    go_wp2
    go_ret
    refine ⟨w.heap.size, 0, fun _ => 0, rfl, Nat.le_refl _, Nat.le_refl _, ?_, fun t ht => by omega, ?_⟩
    · exact ⟨#[], setRow_heap _ _ #[] _ 26 _ (Go.Deep.blk_alloc_new _ _), rfl, fun i hi => by omega⟩
    · have B1 := (Below.refl w.heap.size w).alloc (Nat.le_refl _) (.cells #[] 26)
      exact ⟨B1.os, B1.tape, B1.output, by simp [World.setRow], fun k hk => (setRow_other _ w.heap.size k _ (by omega)).trans (B1.block k hk)⟩
  · have hrun := run_append_grow (P := Yba.prog) (w.alloc (.cells #[] 26)) 30 30 26 i0 (.int .u32 0) Yba.underlying30 hi0 hz0 ⟨w.heap.size, 0, none⟩ 0 0 [] (by simp) (by intro j u h; simp at h) ⟨b, 0, none⟩ n c ((List.range n).map (row d)) hl hnews (by omega) (by omega) (by rw [hb0]; exact growslice_fits (by omega) (by omega))
    have hge := grownCap_ge (w.alloc (.cells #[] 26)) (0 + n) 0 26
    generalize grownCap (w.alloc (.cells #[] 26)) (0 + n) 0 26 = cap at hrun hge
    rw [Nat.zero_add] at hrun hge
    obtain ⟨cells, hcells⟩ : ∃ cells, (([] : List Value).toArray ++ ((List.range n).map (row d)).toArray ++ Builtin.zeroCells (Value.int .u32 0).cells (cap - n)) = cells := ⟨_, rfl⟩
    rw [hcells] at hrun
    have hsz : cells.size = cap := by
      rw [← hcells]
      simp [Builtin.zeroCells, Value.cells]
      omega
    have hrow : (((w.alloc (.cells #[] 26)).drew).alloc (.cells cells 26)).rowIs (w.heap.size + 1) 26 cap (row (fun t => if t < n then d t else 0)) := by
      have h := World.rowIs_alloc ((w.alloc (.cells #[] 26)).drew) cells 26 (row (fun t => if t < n then d t else 0)) (by
        intro i hi
        rw [hsz] at hi
        rw [← hcells]
        by_cases h : i < n
        · rw [Array.getElem?_append_left (by simpa using h)]
          simp [h, row]
        · rw [Array.getElem?_append_right (by simp; omega)]
          have h2 : i - n < cap - n := by omega
          simp [Builtin.zeroCells, Value.cells, row, h, h2, Nat.mod_one])
      rw [hsz] at h
      have e : (w.alloc (.cells #[] 26)).drew.heap.size = w.heap.size + 1 := hs1
      rwa [e] at h
    rw [hs1] at hrun
    replace hrun := hide hrun
    replace hrow := hide hrow
    clear hcells
    go_enter Yba.func8, Yba.ntmps8
    go_wp2_with (at_builtin; refine wpList_append_run rfl _ _ 30 rfl _ _ rfl rfl _ _ hrun.out ?_)
    go_wp2
    go_ret
    refine ⟨w.heap.size + 1, cap, _, rfl, by omega, hge, hrow.out, fun t ht => by simp [ht], ?_⟩
    exact (((Below.refl w.heap.size w).alloc (Nat.le_refl _) (.cells #[] 26)).drew).alloc (by show _ ≤ (w.alloc (.cells #[] 26)).heap.size; omega) _

/-- The row's first n places as an array. -/
def arr (d : Nat → Nat) (n : Nat) : Array Int := ((List.range n).map fun t => ((d t : Nat) : Int)).toArray
theorem arr_size (d : Nat → Nat) (n : Nat) : (arr d n).size = n := by simp [arr]
theorem arr_get (d : Nat → Nat) {n t : Nat} (h : t < n) : (arr d n)[t]! = ((d t : Nat) : Int) := by simp [arr, h]

theorem compact_plain (d : Nat → Nat) (n : Nat) (ha : Asc 0 n d) : (Lib.compactUpTo (arr d n) n).Pairwise (· < ·) ∧ (∀ x ∈ Lib.compactUpTo (arr d n) n, ∃ s, s < n ∧ x = ((d s : Nat) : Int)) ∧ (0 < n → Lib.compactUpTo (arr d n) n ≠ []) ∧ (Lib.compactUpTo (arr d n) n).length ≤ n := by
  unfold Lib.compactUpTo
  refine ⟨?_, ?_, ?_, ?_⟩
  · rw [List.pairwise_map]
    refine List.Pairwise.imp_of_mem (R := (· < ·)) ?_ (List.pairwise_lt_range.filter _)
    intro i j hi hj hij
    simp only [List.mem_filter, List.mem_range] at hi hj
    have hk : Lib.keeps (arr d n) j = true := hj.2
    unfold Lib.keeps at hk
    simp only [decide_eq_true_eq] at hk
    rw [arr_get d hi.1, arr_get d hj.1]
    rcases hk with hk | hk
    · omega
    · rw [arr_get d hj.1, arr_get d (by omega : j - 1 < n)] at hk
      have h1 : d i ≤ d (j - 1) := by
        by_cases e : i = j - 1
        · rw [e]; exact Nat.le_refl _
        · exact ha i (j - 1) (by omega) (by omega) (by omega)
      have h2 : d (j - 1) ≤ d j := ha (j - 1) j (by omega) (by omega) hj.1
      omega
  · intro x hx
    simp only [List.mem_map, List.mem_filter, List.mem_range] at hx
    obtain ⟨j, ⟨hj, _⟩, rfl⟩ := hx
    exact ⟨j, hj, arr_get d hj⟩
  · intro h0 hnil
    have hm : (arr d n)[0]! ∈ ((List.range n).filter (Lib.keeps (arr d n))).map ((arr d n)[·]!) := by
      refine List.mem_map.2 ⟨0, ?_, rfl⟩
      simp [h0, Lib.keeps]
    rw [hnil] at hm
    cases hm
  · rw [List.length_map]
    have := List.length_filter_le (Lib.keeps (arr d n)) (List.range n)
    simpa using this

theorem compact (b C n cap : Nat) (d : Nat → Nat) (w : World) (hr : w.rowIs b 26 C (row d)) (hn : n ≤ C) (hcap : n ≤ cap) (hC : n ≤ 1000000) (ha : Asc 0 n d) :
    Calls Yba.prog 10 #[.slice (some ⟨b, 0, none⟩) n cap] w fun e w' => ∃ (m : Nat) (f : Nat → Nat), e = .returned (.slice (some ⟨b, 0, none⟩) m cap) ∧ m ≤ n ∧ (0 < n → 0 < m) ∧ (∀ t, t < m → w'.cell? ⟨b, t, none⟩ = some (.int .u32 ((f t : Nat) : Int))) ∧
      (∀ p q, p < q → q < m → f p < f q) ∧ (∀ t, t < m → ∃ s, s < n ∧ f t = d s) ∧ Below b w w' := by
  have hH : Sort.Holds (Value.int .u32) w b 0 (arr d n) := by
    intro j hj
    rw [arr_size] at hj
    rw [Nat.zero_add, arr_get d hj]
    exact ⟨hr.cell (by omega), hr.frozen _⟩
  have h := AnyE.slices_Compact Yba.compactL (Value.int .u32) (fun _ => rfl) (EqlAt.intD _ _ .u32) (NeqAt.intD _ _ .u32) 0 (fun w => by kernel_rfl) b 0 cap (arr d n) w hH (by rw [arr_size]; omega) (by rw [arr_size]; omega)
  rw [arr_size] at h
  change Calls Yba.prog 10 _ _ _ at h
  obtain ⟨p1, p2, p3, p4⟩ := compact_plain d n ha
  generalize Lib.compactUpTo (arr d n) n = l at h p1 p2 p3 p4
  refine h.mono ?_
  rintro e w' ⟨rfl, q, rfl⟩
  have hnn : ∀ t, t < l.length → ∃ s, s < n ∧ l.getD t 0 = ((d s : Nat) : Int) := fun t ht => p2 _ (by simp [ht])
  refine ⟨l.length, fun t => (l.getD t 0).toNat, rfl, p4, fun h0 => List.length_pos_iff.2 (p3 h0), fun t ht => ?_, fun p q hpq hq => ?_, fun t ht => ?_, ?_⟩
  · obtain ⟨s, hs, es⟩ := hnn t ht
    have hc := Sort.cell?_putRow (Value.int .u32) (Sort.ahead w q) b 0 (arr d n) (l ++ List.replicate (n - l.length) 0).toArray (Sort.holds_ahead _ _ _ _ _ _ hH) (by rw [arr_size]; simp; omega) t (by simp; omega)
    rw [Nat.zero_add] at hc
    rw [hc]
    have e : ((l ++ List.replicate (n - l.length) 0).toArray : Array Int)[t]! = l.getD t 0 := by
      simp [List.getElem?_append_left ht]
    rw [e]
    simp only []
    rw [es, Int.toNat_natCast]
  · obtain ⟨s, hs, es⟩ := hnn p (by omega)
    obtain ⟨s', hs', es'⟩ := hnn q hq
    have hlt := List.pairwise_iff_getElem.1 p1 p q (by omega) hq hpq
    have e1 : l[p]'(by omega) = l.getD p 0 := by simp [show p < l.length by omega]
    have e2 : l[q]'hq = l.getD q 0 := by simp [hq]
    rw [e1, e2] at hlt
    simp only []
    omega
  · obtain ⟨s, hs, es⟩ := hnn t ht
    exact ⟨s, hs, by simp only []; rw [es, Int.toNat_natCast]⟩
  · refine ⟨rfl, rfl, rfl, ?_, fun k hk => ?_⟩
    · simp [Sort.putRow, Sort.mapBlock, Sort.ahead]
    · simp only [Sort.putRow, Sort.mapBlock, Sort.ahead]
      rw [Array.getElem?_modify, if_neg (by omega)]
end Go.Proofs.Ybulkdfzs.S
