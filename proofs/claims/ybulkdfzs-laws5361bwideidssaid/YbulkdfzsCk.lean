/-
  zzs5361bcheck, walked: the parts of its body. Own text.
-/
import Derived.Test.YbulkdfzsSj
import Derived.Test.YbulkdfzsMe
namespace Go.Proofs.Ybulkdfzs.S
open Go.RowKit Go.Proofs.Ybulkdfzs.AR Go.Proofs.Ybulkdfzs.Pl
set_option linter.unusedVariables false
set_option linter.unusedSimpArgs false
set_option maxRecDepth 100000

set_option maxRecDepth 100000 in
theorem to_lit101 {a : Act} (h : Fr 101 a) : ∃ u : Nat → Value, a = ⟨List.toArray (u 0 :: u 1 :: u 2 :: u 3 :: u 4 :: u 5 :: u 6 :: u 7 :: u 8 :: u 9 :: u 10 :: u 11 :: u 12 :: u 13 :: u 14 :: u 15 :: u 16 :: u 17 :: u 18 :: u 19 :: u 20 :: u 21 :: u 22 :: u 23 :: u 24 :: u 25 :: u 26 :: u 27 :: u 28 :: u 29 :: u 30 :: u 31 :: u 32 :: u 33 :: u 34 :: u 35 :: u 36 :: u 37 :: u 38 :: u 39 :: u 40 :: u 41 :: u 42 :: u 43 :: u 44 :: u 45 :: u 46 :: u 47 :: u 48 :: u 49 :: u 50 :: u 51 :: u 52 :: u 53 :: u 54 :: u 55 :: u 56 :: u 57 :: u 58 :: u 59 :: u 60 :: u 61 :: u 62 :: u 63 :: u 64 :: u 65 :: u 66 :: u 67 :: u 68 :: u 69 :: u 70 :: u 71 :: u 72 :: u 73 :: u 74 :: u 75 :: u 76 :: u 77 :: u 78 :: u 79 :: u 80 :: u 81 :: u 82 :: u 83 :: u 84 :: u 85 :: u 86 :: u 87 :: u 88 :: u 89 :: u 90 :: u 91 :: u 92 :: u 93 :: u 94 :: u 95 :: u 96 :: u 97 :: u 98 :: u 99 :: u 100 :: []), []⟩ ∧ ∀ i, i < 101 → slot a i = u i := by
  obtain ⟨t, d⟩ := a
  obtain ⟨l⟩ := t
  obtain ⟨h1, h2⟩ := h
  have hl : l.length = 101 := h1
  have hd : d = [] := h2
  subst hd
  have e := toList_range l
  rw [hl] at e
  refine ⟨fun i => l.getD i undef, ?_, fun i hi => by simp [slot]⟩
  generalize hu : (fun i => l.getD i undef) = u at e ⊢
  have e2 : (List.range 101).map u = (u 0 :: u 1 :: u 2 :: u 3 :: u 4 :: u 5 :: u 6 :: u 7 :: u 8 :: u 9 :: u 10 :: u 11 :: u 12 :: u 13 :: u 14 :: u 15 :: u 16 :: u 17 :: u 18 :: u 19 :: u 20 :: u 21 :: u 22 :: u 23 :: u 24 :: u 25 :: u 26 :: u 27 :: u 28 :: u 29 :: u 30 :: u 31 :: u 32 :: u 33 :: u 34 :: u 35 :: u 36 :: u 37 :: u 38 :: u 39 :: u 40 :: u 41 :: u 42 :: u 43 :: u 44 :: u 45 :: u 46 :: u 47 :: u 48 :: u 49 :: u 50 :: u 51 :: u 52 :: u 53 :: u 54 :: u 55 :: u 56 :: u 57 :: u 58 :: u 59 :: u 60 :: u 61 :: u 62 :: u 63 :: u 64 :: u 65 :: u 66 :: u 67 :: u 68 :: u 69 :: u 70 :: u 71 :: u 72 :: u 73 :: u 74 :: u 75 :: u 76 :: u 77 :: u 78 :: u 79 :: u 80 :: u 81 :: u 82 :: u 83 :: u 84 :: u 85 :: u 86 :: u 87 :: u 88 :: u 89 :: u 90 :: u 91 :: u 92 :: u 93 :: u 94 :: u 95 :: u 96 :: u 97 :: u 98 :: u 99 :: u 100 :: []) := by kernel_rfl
  rw [e2] at e
  rw [e]

/-- The sorted, distinct ids in block g. -/
def Ids (g m : Nat) (f : Nat → Nat) (w : World) : Prop :=
  (∀ t, t < m → w.cell? ⟨g, t, none⟩ = some (.int .u32 ((f t : Nat) : Int))) ∧ (∀ p q, p < q → q < m → f p < f q) ∧ (∀ t, t < m → 0 < f t ∧ f t < 2147483648)
theorem Ids.later {g m : Nat} {f : Nat → Nat} {w w' : World} {B : Nat} (h : Ids g m f w) (hb : Below B w w') (hg : g < B) : Ids g m f w' :=
  ⟨fun t ht => (hb.cell (p := ⟨g, t, none⟩) hg).trans (h.1 t ht), h.2⟩

set_option maxHeartbeats 2000000 in
/-- Clone, Sort, Compact. -/
theorem ck1 (b n : Nat) (d : Nat → Nat) (v1 : Value) (w : World) (A : Act) (hF : Fr 101 A) (h0 : slot A 0 = .slice (some ⟨b, 0, none⟩) n n) (h1 : slot A 1 = v1) (hr : w.rowIs b 26 n (row d)) (hn : n ≤ 1024) (hd : ∀ t, t < n → 0 < d t ∧ d t < 2147483648) (c : Code) (Q : Exit → Act → World → Prop)
    (hnext : Hid (∀ A' g m cap f w', Fr 101 A' → slot A' 1 = v1 → slot A' 5 = .slice (some ⟨g, 0, none⟩) m cap → m ≤ 1024 → m ≤ cap → g < w'.heap.size → Ids g m f w' → Below w.heap.size w w' → c.wp Yba.prog Q A' w')) :
    Code.wp Yba.prog (Code.seq (seqPart 0 (bodyOf Yba.f7)) (Code.seq (seqPart 1 (bodyOf Yba.f7)) (Code.seq (seqPart 2 (bodyOf Yba.f7)) (Code.seq (seqPart 3 (bodyOf Yba.f7)) c)))) Q A w := by
  obtain ⟨u, rfl, hu⟩ := to_lit101 hF
  have e0 := (hu 0 (by omega)).symm.trans h0
  have e1 := (hu 1 (by omega)).symm.trans h1
  clear hu hF h0 h1
  conv => arg 2; arg 1; whnf
  conv => arg 2; arg 2; arg 1; whnf
  conv => arg 2; arg 2; arg 2; arg 1; whnf
  conv => arg 2; arg 2; arg 2; arg 2; arg 1; whnf
  rw [e0, e1]
  clear e0 e1
  go_wp2_with fail
  refine (clone b n n n d w hr (Nat.le_refl _) (by omega)).mono ?_
  rintro e w1 ⟨g, cap, d1, rfl, hg, hcap, hr1, hd1, hb1⟩
  have hlt1 := hr1.lt
  go_wp2_with fail
  refine (sort g cap n cap d1 w1 hr1 hcap (by omega)).mono ?_
  rintro e w2 ⟨rfl, hb2, d2, hr2, hm2, ha2⟩
  replace hm2 := hide hm2
  replace hd1 := hide hd1
  go_wp2_with fail
  refine (compact g cap n cap d2 w2 hr2 hcap hcap (by omega) ha2).mono ?_
  rintro e w3 ⟨m, f, rfl, hmn, hm0, hc3, hasc, hmem, hb3⟩
  replace hc3 := hide hc3
  replace hasc := hide hasc
  replace hmem := hide hmem
  go_wp2
  refine hnext.out _ g m cap f w3 ⟨rfl, rfl⟩ rfl rfl (by omega) (by omega) ?_ ⟨hc3.out, hasc.out, fun t ht => ?_⟩ ?_
  · have := hb2.size
    have := hb3.size
    omega
  · obtain ⟨s, hs, e⟩ := hmem.out t ht
    rw [e]
    refine hm2.out.all (p := fun x => 0 < x ∧ x < 2147483648) (fun t _ k2 => ?_) s (Nat.zero_le _) hs
    rw [hd1.out t k2]
    exact hd t k2
  · exact (hb1.trans (hb2.mono hg)).trans (hb3.mono hg)

theorem row_new (w : World) (X : Array Value) (t : TypeId) : (w.alloc (.cells X t)).rowIs w.heap.size t X.size (fun i => X[i]?.getD undef) :=
  World.rowIs_alloc w X t _ (fun i hi => by simp [hi])
theorem cell_new (w : World) (X : Array Value) (t : TypeId) (i : Nat) (h : i < X.size) : (w.alloc (.cells X t)).cell? ⟨w.heap.size, i, none⟩ = X[i]? := by
  rw [(row_new w X t).cell h]
  simp [h]
theorem frozen_new (w : World) (X : Array Value) (t : TypeId) (i : Nat) : (w.alloc (.cells X t)).frozen? ⟨w.heap.size, i, none⟩ = false := (row_new w X t).frozen i

set_option maxHeartbeats 2000000 in
/-- The Universe value. -/
theorem ck2 (v1 v5 : Value) (w : World) (A : Act) (hF : Fr 101 A) (h1 : slot A 1 = v1) (h5 : slot A 5 = v5) (c : Code) (Q : Exit → Act → World → Prop)
    (hnext : Hid (∀ A' o, Fr 101 A' → slot A' 1 = v1 → slot A' 5 = v5 → slot A' 6 = .pointer (some ⟨w.heap.size, 0, none⟩) → slot A' 7 = .int .u32 0 → NS w.heap.size (w.alloc o) [] → c.wp Yba.prog Q A' (w.alloc o))) :
    Code.wp Yba.prog (Code.seq (seqPart 4 (bodyOf Yba.f7)) (Code.seq (seqPart 5 (bodyOf Yba.f7)) c)) Q A w := by
  obtain ⟨u, rfl, hu⟩ := to_lit101 hF
  have e1 := (hu 1 (by omega)).symm.trans h1
  have e5 := (hu 5 (by omega)).symm.trans h5
  clear hu hF h1 h5
  conv => arg 2; arg 1; whnf
  conv => arg 2; arg 2; arg 1; whnf
  rw [e1, e5]
  clear e1 e5
  go_wp2
  refine hnext.out _ _ ⟨rfl, rfl⟩ rfl rfl rfl rfl ?_
  generalize hl : (Obj.cells _ 80) = o
  have hsz : (w.alloc o).heap.size = w.heap.size + 1 := by show (w.heap.push o).size = _; simp
  refine ⟨.slice none 0 0, [], ?_, ?_, by omega, World.ownsRow_nil _ _ _ _, fun i z o h => by simp at h⟩
  · subst hl
    exact (cell_new w _ 80 11 (by decide)).trans rfl
  · subst hl
    exact frozen_new w _ 80 11

set_option maxHeartbeats 2000000 in
/-- The trie. -/
theorem ck3 (U g m cap : Nat) (f : Nat → Nat) (v1 : Value) (w : World) (A : Act) (hF : Fr 101 A) (h1 : slot A 1 = v1) (h5 : slot A 5 = .slice (some ⟨g, 0, none⟩) m cap) (h6 : slot A 6 = .pointer (some ⟨U, 0, none⟩)) (h7 : slot A 7 = .int .u32 0) (hm : m ≤ 1024) (hcap : m ≤ cap) (hgU : g < U) (hI : Ids g m f w) (hNS : NS U w []) (Q : Exit → Act → World → Prop)
    (hnext : Hid (∀ A' s N w', Fr 101 A' → slot A' 1 = v1 → slot A' 5 = .slice (some ⟨g, 0, none⟩) m cap → slot A' 6 = .pointer (some ⟨U, 0, none⟩) → slot A' 7 = .int .u32 ((s : Nat) : Int) → NS U w' N → N.length ≤ 1024 → (m = 0 → s = 0) → (0 < m → Enc N 31 s (seg f 0 m)) → Below U w w' → Q .normal A' w')) :
    Code.wp Yba.prog (seqPart 6 (bodyOf Yba.f7)) Q A w := by
  obtain ⟨u, rfl, hu⟩ := to_lit101 hF
  have e1 := (hu 1 (by omega)).symm.trans h1
  have e5 := (hu 5 (by omega)).symm.trans h5
  have e6 := (hu 6 (by omega)).symm.trans h6
  have e7 := (hu 7 (by omega)).symm.trans h7
  clear hu hF h1 h5 h6 h7
  conv => arg 2; whnf
  rw [e1, e5, e6, e7]
  clear e1 e5 e6 e7
  by_cases hm0 : 0 < m
  · have hmi : (0 : Int) < (m : Int) := by omega
    go_wp2_with fail
    refine (build U g f hgU m 0 cap 31 w [] hm0 hm hcap (fun t ht => by rw [Nat.zero_add]; exact hI.1 t ht) (fun t ht => by rw [Nat.zero_add]; exact hI.2.2 t ht) (fun p q hpq hq => by rw [Nat.zero_add, Nat.zero_add]; exact hI.2.1 p q hpq hq)
      (fun t ht => by
        rw [Nat.zero_add, Nat.div_eq_of_lt (hI.2.2 t ht).2, Nat.div_eq_of_lt (hI.2.2 0 hm0).2]) (by simp; omega) hNS).mono ?_
    rintro r w' ⟨s, rfl, N, hNS', hlN, hE, hb⟩
    replace hE := hide hE
    replace hNS' := hide hNS'
    have hl' : N.length + 1 = m := by simpa [seg] using hlN
    clear hlN
    go_wp2
    exact hnext.out _ s N w' ⟨rfl, rfl⟩ rfl rfl rfl rfl (by simpa using hNS'.out) (by omega) (fun h => by omega) (fun _ => by simpa using hE.out) hb
  · have hmi : ¬ (0 : Int) < (m : Int) := by omega
    go_wp2
    exact hnext.out _ 0 [] w ⟨rfl, rfl⟩ rfl rfl rfl rfl hNS (by simp) (fun _ => rfl) (fun h => absurd h hm0) (Below.refl _ _)

theorem NS.slice {U : Nat} {w : World} {N : List (Nat × Nat)} (h : NS U w N) : ∃ ao gc, w.cell? ⟨U, 11, none⟩ = some (.slice ao N.length gc) := by
  obtain ⟨v, xs, hc, _, _, hown, _⟩ := h
  rcases hown.2 with ⟨e, h0⟩ | ⟨g, cap, cur, e, _⟩
  · exact ⟨none, 0, by rw [hc, e, h0]⟩
  · exact ⟨_, cap, by rw [hc, e]⟩
theorem NS.nodes {U : Nat} {w : World} {N : List (Nat × Nat)} (h : NS U w N) : Nodes w.heap.size U w N := by
  obtain ⟨v, xs, hc, _, hU, hown, hx⟩ := h
  refine ⟨hU, v, hc, fun i z o hi => ?_⟩
  have hil : i < N.length := (List.getElem?_eq_some_iff.1 hi).1
  rcases hown.2 with ⟨e, h0⟩ | ⟨g, cap, cur, e, hg, hb, hr⟩
  · omega
  · have hgl : g < w.heap.size := (hown.lt g (by rw [e]; rfl)).2
    obtain ⟨g1, g2⟩ := hx i z o hi
    have c1 := hown.cells (g := g) (by rw [e]; rfl) _ _ g1
    have c2 := hown.cells (g := g) (by rw [e]; rfl) _ _ g2
    rw [add_zero_addr] at c1 c2
    exact ⟨g, cap, e, hgl, c1, c2⟩

set_option maxHeartbeats 2000000 in
/-- How many nodes; the row for dst. -/
theorem ck4 (U : Nat) (N : List (Nat × Nat)) (v5 v7 : Value) (a1 : Option Addr) (l1 c1 : Nat) (hl1 : l1 ≤ 1024) (w : World) (A : Act) (hF : Fr 101 A) (h1 : slot A 1 = .slice a1 l1 c1) (h5 : slot A 5 = v5) (h6 : slot A 6 = .pointer (some ⟨U, 0, none⟩)) (h7 : slot A 7 = v7) (hNS : NS U w N) (hN : N.length ≤ 1024) (c : Code) (Q : Exit → Act → World → Prop)
    (hnext : Hid (∀ A', Fr 101 A' → slot A' 1 = .slice a1 l1 c1 → slot A' 5 = v5 → slot A' 6 = .pointer (some ⟨U, 0, none⟩) → slot A' 7 = v7 → slot A' 8 = .int .i64 (N.length : Int) → slot A' 9 = .slice (some ⟨w.heap.size, 0, none⟩) l1 l1 → c.wp Yba.prog Q A' (w.alloc (.cells (madeCells #[.int .u32 0] l1) 26)))) :
    Code.wp Yba.prog (Code.seq (seqPart 7 (bodyOf Yba.f7)) (Code.seq (seqPart 8 (bodyOf Yba.f7)) c)) Q A w := by
  obtain ⟨u, rfl, hu⟩ := to_lit101 hF
  have e1 := (hu 1 (by omega)).symm.trans h1
  have e5 := (hu 5 (by omega)).symm.trans h5
  have e6 := (hu 6 (by omega)).symm.trans h6
  have e7 := (hu 7 (by omega)).symm.trans h7
  clear hu hF h1 h5 h6 h7
  conv => arg 2; arg 1; whnf
  conv => arg 2; arg 2; arg 1; whnf
  rw [e1, e5, e6, e7]
  clear e1 e5 e6 e7
  obtain ⟨ao, gc, hcU⟩ := hNS.slice
  have hmk := fun w => make_k (P := Yba.prog) 30 26 (.int .u32 0) 1 4 Yba.underlying30 info26 .i64 .i64 l1 (by omega) (by omega) w
  simp only [Nat.mul_one] at hmk
  generalize N.length = K at hN hcU hnext
  go_wp2
  exact hnext.out _ ⟨rfl, rfl⟩ rfl rfl rfl rfl rfl rfl
end Go.Proofs.Ybulkdfzs.S
