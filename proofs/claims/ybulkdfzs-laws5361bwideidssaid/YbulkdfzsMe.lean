/-
  (*Universe).appendMembers, walked: it appends what the word stands for. Own text.
-/
import Derived.Test.YbulkdfzsBv
import Derived.OwnWalk
namespace Go.Proofs.Ybulkdfzs.S
open Go.RowKit Go.Proofs.Ybulkdfzs.AR Go.Proofs.Ybulkdfzs.Pl
set_option linter.unusedVariables false
set_option linter.unusedSimpArgs false
set_option maxRecDepth 100000

set_option maxRecDepth 100000 in
theorem to_lit47 {a : Act} (h : Fr 47 a) : ∃ u : Nat → Value, a = ⟨List.toArray (u 0 :: u 1 :: u 2 :: u 3 :: u 4 :: u 5 :: u 6 :: u 7 :: u 8 :: u 9 :: u 10 :: u 11 :: u 12 :: u 13 :: u 14 :: u 15 :: u 16 :: u 17 :: u 18 :: u 19 :: u 20 :: u 21 :: u 22 :: u 23 :: u 24 :: u 25 :: u 26 :: u 27 :: u 28 :: u 29 :: u 30 :: u 31 :: u 32 :: u 33 :: u 34 :: u 35 :: u 36 :: u 37 :: u 38 :: u 39 :: u 40 :: u 41 :: u 42 :: u 43 :: u 44 :: u 45 :: u 46 :: []), []⟩ ∧ ∀ i, i < 47 → slot a i = u i := by
  obtain ⟨t, d⟩ := a
  obtain ⟨l⟩ := t
  obtain ⟨h1, h2⟩ := h
  have hl : l.length = 47 := h1
  have hd : d = [] := h2
  subst hd
  have e := toList_range l
  rw [hl] at e
  refine ⟨fun i => l.getD i undef, ?_, fun i hi => by simp [slot]⟩
  generalize hu : (fun i => l.getD i undef) = u at e ⊢
  have e2 : (List.range 47).map u = (u 0 :: u 1 :: u 2 :: u 3 :: u 4 :: u 5 :: u 6 :: u 7 :: u 8 :: u 9 :: u 10 :: u 11 :: u 12 :: u 13 :: u 14 :: u 15 :: u 16 :: u 17 :: u 18 :: u 19 :: u 20 :: u 21 :: u 22 :: u 23 :: u 24 :: u 25 :: u 26 :: u 27 :: u 28 :: u 29 :: u 30 :: u 31 :: u 32 :: u 33 :: u 34 :: u 35 :: u 36 :: u 37 :: u 38 :: u 39 :: u 40 :: u 41 :: u 42 :: u 43 :: u 44 :: u 45 :: u 46 :: []) := by kernel_rfl
  rw [e2] at e
  rw [e]

/-- The nodes, to be read only: all below the block B0. -/
def Nodes (B0 U : Nat) (w : World) (N : List (Nat × Nat)) : Prop :=
  U < B0 ∧ ∃ V, w.cell? ⟨U, 11, none⟩ = some V ∧ ∀ (i z o : Nat), N[i]? = some (z, o) → ∃ G gc, V = .slice (some ⟨G, 0, none⟩) N.length gc ∧ G < B0 ∧ w.cell? ⟨G, i * 4, none⟩ = some (.int .u32 (z : Int)) ∧ w.cell? ⟨G, i * 4 + 1, none⟩ = some (.int .u32 (o : Int))
theorem Nodes.later {B0 U : Nat} {w w' : World} {N : List (Nat × Nat)} (h : Nodes B0 U w N) (hb : Below B0 w w') : Nodes B0 U w' N := by
  obtain ⟨hU, V, hV, hx⟩ := h
  refine ⟨hU, V, (hb.cell (p := ⟨U, 11, none⟩) hU).trans hV, fun i z o hi => ?_⟩
  obtain ⟨G, gc, e, hG, c1, c2⟩ := hx i z o hi
  exact ⟨G, gc, e, hG, (hb.cell (p := ⟨G, i * 4, none⟩) hG).trans c1, (hb.cell (p := ⟨G, i * 4 + 1, none⟩) hG).trans c2⟩

/-- What waits: the words f (n-1), .., f 0. -/
def Pend (N : List (Nat × Nat)) (f : Nat → Nat) : Nat → List Nat → Prop
  | 0, r => r = []
  | n + 1, r => ∃ l r', r = l ++ r' ∧ Enc N (31 - n) (f n) l ∧ Pend N f n r'
theorem Pend.congr {N : List (Nat × Nat)} {f g : Nat → Nat} : ∀ {n : Nat} {r : List Nat}, Pend N f n r → (∀ i, i < n → g i = f i) → Pend N g n r
  | 0, _, h, _ => h
  | n + 1, _, ⟨l, r', e, h1, h2⟩, hg => ⟨l, r', e, by rw [hg n (by omega)]; exact h1, h2.congr fun i hi => hg i (by omega)⟩

theorem andNot32 (i : Nat) (hi : i < 2147483648) : bits .andNot .u32 ((2147483648 + i : Nat) : Int) 2147483648 = (i : Int) := by
  show IntKind.u32.wrap ((BitVec.ofInt 32 ((2147483648 + i : Nat) : Int) &&& ~~~ BitVec.ofInt 32 2147483648).toNat : Int) = _
  rw [BitVec.toNat_and, ofInt32 _ (by omega)]
  have e : (~~~ BitVec.ofInt 32 2147483648).toNat = 2 ^ 31 - 1 := by decide
  rw [e, Nat.and_two_pow_sub_one_eq_mod, IntKind.wrap_u32]
  omega

theorem and31 (s : Nat) (hs : s < 4294967296) : ∃ q : Nat, bits .and .u32 (s : Int) 2147483648 = (q : Int) ∧ (q = 0 ↔ s < 2147483648) := by
  refine ⟨s &&& 2147483648, and32 s 2147483648 hs (by omega), ?_⟩
  have := and_pow s 31
  rw [show (2 : Nat) ^ 31 = 2147483648 from rfl] at this
  rw [this]
  omega

/-- The frame. -/
def Mf (U O : Nat) (v : Value) (s n : Nat) (A : Act) : Prop :=
  Fr 47 A ∧ slot A 0 = .pointer (some ⟨U, 0, none⟩) ∧ slot A 1 = v ∧ slot A 2 = .int .u32 (s : Int) ∧ slot A 7 = .pointer (some ⟨O, 0, none⟩) ∧ slot A 8 = .int .i64 (n : Int)

def outerOf (f : Func) : Code := match seqRest 4 (bodyOf f) with | .block _ (.loop (.block _ c)) => c | c => c
def innerOf (f : Func) : Code := match seqPart 0 (outerOf f) with | .block _ (.loop c) => c | c => c

set_option maxHeartbeats 2000000 in
/-- One round of the inner loop. -/
theorem me_in (U O B0 : Nat) (v : Value) (s n : Nat) (N : List (Nat × Nat)) (f : Nat → Nat) (l r : List Nat) (w : World) (A : Act) (hM : Mf U O v s n A) (hN : Nodes B0 U w N) (hE : Enc N (31 - n) s l) (hP : Pend N f n r) (hn : n ≤ 31) (hO : w.rowIs O 97 31 (row f)) (hBO : B0 ≤ O) (Q : Exit → Act → World → Prop)
    (hout : Hid (∀ A', Mf U O v s n A' → l = [s] → s < 2147483648 → Q (.exit 2) A' w))
    (hgo : Hid (∀ A' s' f' l' r', Mf U O v s' (n + 1) A' → n + 1 ≤ 31 → Enc N (31 - (n + 1)) s' l' → Pend N f' (n + 1) r' → l' ++ r' = l ++ r → ∀ w', w'.rowIs O 97 31 (row f') → Below O w w' → (∀ k, k ≠ O → w'.heap[k]? = w.heap[k]?) → w'.heap.size = w.heap.size → Q .normal A' w')) :
    Code.wp Yba.prog (innerOf Yba.f12) Q A w := by
  obtain ⟨hF, h0, h1, h2, h7, h8⟩ := hM
  obtain ⟨u, rfl, hu⟩ := to_lit47 hF
  have e0 := (hu 0 (by omega)).symm.trans h0
  have e1 := (hu 1 (by omega)).symm.trans h1
  have e2 := (hu 2 (by omega)).symm.trans h2
  have e7 := (hu 7 (by omega)).symm.trans h7
  have e8 := (hu 8 (by omega)).symm.trans h8
  clear hu h0 h1 h2 h7 h8 hF
  conv => arg 2; whnf
  rw [e0, e1, e2, e7, e8]
  clear e0 e1 e2 e7 e8
  obtain ⟨hU, V, hcV, hnode⟩ := hN
  replace hnode := hide hnode
  replace hO := hide hO
  replace hP := hide hP
  generalize hD : 31 - n = Dn at hE
  rcases hE.parts with ⟨hx0, hx, rfl⟩ | ⟨D, i, z, o, l1, l2, rfl, rfl, rfl, hi, hlt, g1, g2⟩
  · clear hD hE
    obtain ⟨q, hq, hq0⟩ := and31 s (by omega)
    have hq1 := hq0.2 hx
    subst hq1
    clear hq0
    have hq' : bits .and .u32 (s : Int) 2147483648 = 0 := hq
    go_wp2
    exact hout.out _ ⟨⟨rfl, rfl⟩, rfl, rfl, rfl, rfl, rfl⟩ (by first | rfl | trivial) hx
  · clear hE
    have hn30 : n ≤ 30 := by omega
    have hDn : D = 31 - (n + 1) := by omega
    clear hD
    obtain ⟨q, hq, hq0⟩ := and31 (2147483648 + i) (by omega)
    have hq1 : q ≠ 0 := fun h => by have := hq0.1 h; omega
    have hqb : ((q : Int) == 0) = false := by simp; omega
    clear hq0 hq1
    obtain ⟨G, gc, hVe, hG, c1, c2⟩ := hnode.out i z o hi
    subst hVe
    have hil : i < N.length := (List.getElem?_eq_some_iff.1 hi).1
    have hNi : (i : Int) < (N.length : Int) := by omega
    have han := andNot32 i hlt
    obtain ⟨S, hS⟩ : ∃ S, 2147483648 + i = S := ⟨_, rfl⟩
    rw [hS] at han hq
    simp only [hS] at hout ⊢
    clear hS
    have hcO : w.cell? ⟨O, n, none⟩ = some (.int .u32 (f n : Int)) := hO.out.cell (by omega)
    have hfO : ∀ t, w.frozen? ⟨O, t, none⟩ = false := fun t => hO.out.frozen t
    have hGO : G < O := by omega
    have hn31 : (n : Int) < 31 := by omega
    generalize N.length = K at hil hNi hcV
    go_wp2
    refine hgo.out _ z (fun t => if t = n then o else f t) l1 (l2 ++ r) ⟨⟨rfl, rfl⟩, rfl, rfl, rfl, rfl, ?_⟩ (by omega) (hDn ▸ g1) ⟨l2, r, rfl, ?_, hP.out.congr fun t ht => by rw [if_neg (by omega)]⟩ (by simp) _ ?_ ((Below.refl O w).setCell (p := ⟨O, n, none⟩) (Nat.le_refl _) _) (fun k hk => Below.heap_setCell _ ⟨O, n, none⟩ _ k hk) (size_setCell _ _ _)
    · show Value.int .i64 _ = _
      congr 1
    · show Enc N (31 - n) (if n = n then o else f n) l2
      rw [if_pos rfl]; exact g2.deep (by omega)
    · refine (hO.out.set n _).congr fun t ht => ?_
      unfold row
      by_cases e : t = n <;> simp [e]

theorem ownsRow_kept_O {w w' : World} {B0 O : Nat} {v : Value} {n : Nat} {xs : List Value} (h : w.ownsRow B0 26 1 v n xs) (hk : ∀ k, k ≠ O → w'.heap[k]? = w.heap[k]?) (hne : v.ownBlock ≠ some O) : w'.ownsRow B0 26 1 v n xs := by
  refine ⟨h.1, ?_⟩
  rcases h.2 with h2 | ⟨g, c, cur, e1, e2, e3, e4⟩
  · exact Or.inl h2
  · refine Or.inr ⟨g, c, cur, e1, e2, (hk g ?_).trans e3, e4⟩
    intro e
    apply hne
    rw [e1, e]
    rfl

/-- What stands at the head of the inner loop. -/
def Mw (U O B0 : Nat) (N : List (Nat × Nat)) (w0 : World) (v : Value) (m : Nat) (ys : List Value) (s n : Nat) (l r : List Nat) (w : World) : Prop :=
  ∃ f, Nodes B0 U w N ∧ Enc N (31 - n) s l ∧ Pend N f n r ∧ n ≤ 31 ∧ w.rowIs O 97 31 (row f) ∧ B0 ≤ O ∧ w.ownsRow B0 26 1 v m ys ∧ v.ownBlock ≠ some O ∧ Below B0 w0 w

/-- The inner loop. -/
theorem me_loop (U O B0 : Nat) (v : Value) (s n : Nat) (N : List (Nat × Nat)) (w0 : World) (m : Nat) (ys : List Value) (l r : List Nat) (w : World) (A : Act) (hM : Mf U O v s n A) (hW : Mw U O B0 N w0 v m ys s n l r w) (Q : Exit → Act → World → Prop)
    (hnext : Hid (∀ A' s' n' r' w', Mf U O v s' n' A' → Mw U O B0 N w0 v m ys s' n' [s'] r' w' → s' < 2147483648 → s' :: r' = l ++ r → Q .normal A' w')) :
    Code.wp Yba.prog (seqPart 0 (outerOf Yba.f12)) Q A w := by
  have e : seqPart 0 (outerOf Yba.f12) = Code.block 2 (Code.loop (innerOf Yba.f12)) := by kernel_rfl
  rw [e]
  refine wp_block ?_
  refine loop_rule (fun k A' w' => ∃ s' n' l' r', k + n' = 31 ∧ Mf U O v s' n' A' ∧ Mw U O B0 N w0 v m ys s' n' l' r' w' ∧ l' ++ r' = l ++ r) (31 - n)
    ⟨s, n, l, r, by obtain ⟨_, _, _, _, h, _⟩ := hW; omega, hM, hW, rfl⟩ ?_
  rintro k A1 w1 ⟨s1, n1, l1, r1, hk, hM1, ⟨f, g1, g2, g3, g4, g5, g6, g7, g8, g9⟩, hl⟩ R hR hexit
  refine me_in U O B0 v s1 n1 N f l1 r1 w1 A1 hM1 g1 g2 g3 g4 g5 g6 R (hide ?_) (hide ?_)
  · intro A2 hM2 e1 hs
    refine hexit.out (.exit 2) _ _ (by intro h; cases h) ?_
    show Q .normal _ _
    exact hnext.out A2 s1 n1 r1 w1 hM2 ⟨f, g1, e1 ▸ g2, g3, g4, g5, g6, g7, g8, g9⟩ hs (by rw [← hl, e1]; rfl)
  · intro A2 s2 f2 l2 r2 hM2 hn2 hE2 hP2 hl2 w2 hO2 hb2 hk2 hs2
    have hb : Below B0 w1 w2 := hb2.mono g6
    exact hR.out (31 - (n1 + 1)) A2 w2 (by omega) ⟨s2, n1 + 1, l2, r2, by omega, hM2, ⟨f2, g1.later hb, hE2, hP2, hn2, hO2, g6, ownsRow_kept_O g7 hk2 g8, g8, g9.trans hb⟩, hl2.trans hl⟩

set_option maxHeartbeats 2000000 in
/-- The append of one member. -/
theorem me_app (U O B0 : Nat) (v : Value) (s n : Nat) (m : Nat) (ys : List Value) (w : World) (A : Act) (hM : Mf U O v s n A) (hown : w.ownsRow B0 26 1 v m ys) (hm : m ≤ 4000) (hB : B0 ≤ w.heap.size) (Q : Exit → Act → World → Prop)
    (hnext : Hid (∀ A' v' w', Mf U O v' s n A' → w'.ownsRow B0 26 1 v' (m + 1) (ys ++ [.int .u32 (s : Int)]) → (w.alloc (.cells #[.int .u32 (s : Int)] 26)).grownBy w' v.ownBlock → Q .normal A' w')) :
    Code.wp Yba.prog (seqPart 1 (outerOf Yba.f12)) Q A w := by
  obtain ⟨hF, h0, h1, h2, h7, h8⟩ := hM
  obtain ⟨u, rfl, hu⟩ := to_lit47 hF
  have e0 := (hu 0 (by omega)).symm.trans h0
  have e1 := (hu 1 (by omega)).symm.trans h1
  have e2 := (hu 2 (by omega)).symm.trans h2
  have e7 := (hu 7 (by omega)).symm.trans h7
  have e8 := (hu 8 (by omega)).symm.trans h8
  clear hu h0 h1 h2 h7 h8 hF
  conv => arg 2; whnf
  rw [e0, e1, e2, e7, e8]
  clear e0 e1 e2 e7 e8
  obtain ⟨i0, hi0, hz0, hs0, hb0⟩ := info26'
  have hO1 := hide (hown.alloc (.cells #[.int .u32 (s : Int)] 26))
  clear hown
  go_wp2_with (at_builtin; refine wpList_append_own _ rfl _ _ 30 rfl B0 26 i0 (.int .u32 0) 1 4 Yba.underlying30 hi0 hz0 hs0 hb0 rfl (by decide) v m ys rfl hO1.out ⟨w.heap.size, 0, none⟩ 1 1 [.int .u32 (s : Int)] rfl rfl ?qc2 ?qc3 ?qc4 ?qc5 ?qc6 ?_)
  case qc2 =>
    intro j x hj
    have hj0 : j < 1 := by
      have := (List.getElem?_eq_some_iff.1 hj).1
      simpa using this
    obtain rfl : j = 0 := by omega
    rw [add_zero_addr, (World.rowIs_alloc w #[.int .u32 (s : Int)] 26 (fun _ => .int .u32 (s : Int)) (by
      intro i hi
      have hi' : i < 1 := hi
      obtain rfl : i = 0 := by omega
      rfl)).cell (by simp)]
    simpa using hj
  case qc3 => intro x hx; simp at hx; subst hx; rfl
  case qc4 => unfold maxLen; omega
  case qc5 => omega
  case qc6 => simp; omega
  intro v' w1 hown hgrow hnil
  replace hown := hide hown
  replace hgrow := hide hgrow
  replace hnil := hide hnil
  go_wp2
  exact hnext.out _ v' w1 ⟨⟨rfl, rfl⟩, rfl, rfl, rfl, rfl, rfl⟩ hown.out hgrow.out

set_option maxHeartbeats 2000000 in
/-- Out, or the next that waits. -/
theorem me_end (U O : Nat) (v : Value) (s n : Nat) (f : Nat → Nat) (w : World) (A : Act) (hM : Mf U O v s n A) (hO : w.rowIs O 97 31 (row f)) (hn : n ≤ 31) (Q : Exit → Act → World → Prop)
    (hret : Hid (n = 0 → ∀ A', Fr 47 A' → slot A' 6 = v → Q .ret A' w)) (hgo : Hid (∀ k A', n = k + 1 → Mf U O v (f k) k A' → Q .normal A' w)) :
    Code.wp Yba.prog (seqRest 2 (outerOf Yba.f12)) Q A w := by
  obtain ⟨hF, h0, h1, h2, h7, h8⟩ := hM
  obtain ⟨u, rfl, hu⟩ := to_lit47 hF
  have e0 := (hu 0 (by omega)).symm.trans h0
  have e1 := (hu 1 (by omega)).symm.trans h1
  have e2 := (hu 2 (by omega)).symm.trans h2
  have e7 := (hu 7 (by omega)).symm.trans h7
  have e8 := (hu 8 (by omega)).symm.trans h8
  clear hu h0 h1 h2 h7 h8 hF
  conv => arg 2; whnf
  rw [e0, e1, e2, e7, e8]
  clear e0 e1 e2 e7 e8
  rcases n with _ | k
  · rw [show ((0 : Nat) : Int) = 0 from rfl]
    go_wp2
    exact hret.out (by first | rfl | trivial) _ ⟨rfl, rfl⟩ rfl
  · have hb : (((k + 1 : Nat) : Int) == 0) = false := by simp; omega
    have hc : w.cell? ⟨O, k, none⟩ = some (.int .u32 (f k : Int)) := hO.cell (by omega)
    obtain ⟨j, hj⟩ : ∃ j, k + 1 = j := ⟨_, rfl⟩
    rw [hj] at hb ⊢
    have ej : ((j : Int) - 1) = (k : Int) := by omega
    have hj1 : 1 ≤ j ∧ j ≤ 31 := by omega
    have hk31 : (k : Int) < 31 := by omega
    replace hj := hide hj
    go_wp2
    exact hgo.out k _ rfl ⟨⟨rfl, rfl⟩, rfl, rfl, rfl, rfl, rfl⟩

theorem outerOf_is : (outerOf Yba.f12) = Code.seq (seqPart 0 (outerOf Yba.f12)) (Code.seq (seqPart 1 (outerOf Yba.f12)) (seqRest 2 (outerOf Yba.f12))) := by kernel_rfl
theorem body12 : bodyOf Yba.f12 = Code.seq (seqPart 0 (bodyOf Yba.f12)) (Code.seq (seqPart 1 (bodyOf Yba.f12)) (Code.seq (seqPart 2 (bodyOf Yba.f12)) (Code.seq (seqPart 3 (bodyOf Yba.f12)) (Code.block 0 (Code.loop (Code.block 1 (outerOf Yba.f12))))))) := by kernel_rfl

theorem all_same {l : Array Value} {a : Value} (h : ∀ x ∈ l, x = a) : ∀ i, i < l.size → l[i]? = some a := fun i hi => by
  rw [Array.getElem?_eq_getElem hi, h _ (Array.getElem_mem hi)]

set_option maxHeartbeats 1000000 in
theorem me_head (U : Nat) (v : Value) (s : Nat) (w : World) (A : Act) (hF : Fr 47 A) (h0 : slot A 0 = .pointer (some ⟨U, 0, none⟩)) (h1 : slot A 1 = v) (h2 : slot A 2 = .int .u32 (s : Int)) (hs : 0 < s) (c : Code) (Q : Exit → Act → World → Prop)
    (hnext : Hid (∀ A' o, Mf U w.heap.size v s 0 A' → (w.alloc o).rowIs w.heap.size 97 31 (row fun _ => 0) → c.wp Yba.prog Q A' (w.alloc o))) :
    Code.wp Yba.prog (Code.seq (seqPart 0 (bodyOf Yba.f12)) (Code.seq (seqPart 1 (bodyOf Yba.f12)) (Code.seq (seqPart 2 (bodyOf Yba.f12)) (Code.seq (seqPart 3 (bodyOf Yba.f12)) c)))) Q A w := by
  obtain ⟨u, rfl, hu⟩ := to_lit47 hF
  have e0 := (hu 0 (by omega)).symm.trans h0
  have e1 := (hu 1 (by omega)).symm.trans h1
  have e2 := (hu 2 (by omega)).symm.trans h2
  clear hu h0 h1 h2 hF
  conv => arg 2; arg 1; whnf
  conv => arg 2; arg 2; arg 1; whnf
  conv => arg 2; arg 2; arg 2; arg 1; whnf
  conv => arg 2; arg 2; arg 2; arg 2; arg 1; whnf
  rw [e0, e1, e2]
  clear e0 e1 e2
  have hb : ((s : Int) == 0) = false := by simp; omega
  go_wp2
  refine hnext.out _ _ ⟨⟨rfl, rfl⟩, rfl, rfl, rfl, rfl, rfl⟩ ?_
  exact World.rowIs_alloc w _ 97 (row fun _ => 0) (all_same (a := .int .u32 0) (by simp))

theorem members0 (U : Nat) (v : Value) (w : World) : Calls Yba.prog 12 #[.pointer (some ⟨U, 0, none⟩), v, .int .u32 0] w fun e w' => e = .returned v ∧ w' = w := by
  go_enter Yba.func12, Yba.ntmps12
  go_wp2
  go_ret
  exact ⟨rfl, rfl⟩

theorem enc_pos {N : List (Nat × Nat)} {D s : Nat} {l : List Nat} (h : Enc N D s l) : 0 < s := by
  rcases h.parts with ⟨h, _⟩ | ⟨D, i, z, o, l1, l2, rfl, rfl, rfl, _⟩
  · exact h
  · omega

/-- appendMembers. -/
theorem members (U B0 : Nat) (N : List (Nat × Nat)) (w : World) (v : Value) (m : Nat) (ys : List Value) (s : Nat) (l : List Nat) (hN : Nodes B0 U w N) (hown : w.ownsRow B0 26 1 v m ys) (hB0 : B0 ≤ w.heap.size) (hm : m ≤ 1024) (hlen : l.length ≤ 1024) (hE : Enc N 31 s l) :
    Calls Yba.prog 12 #[.pointer (some ⟨U, 0, none⟩), v, .int .u32 (s : Int)] w fun e w' => ∃ v', e = .returned v' ∧ w'.ownsRow B0 26 1 v' (m + l.length) (ys ++ l.map fun x => .int .u32 ((x : Nat) : Int)) ∧ Below B0 w w' := by
  refine calls_of_wp Yba.func12 rfl ?_
  show Code.wp Yba.prog (bodyOf Yba.f12) _ _ _
  have hF0 : Fr 47 { tmps := #[.pointer (some ⟨U, 0, none⟩), v, .int .u32 (s : Int)] ++ Array.replicate (Yba.f12.ntmps - (#[.pointer (some ⟨U, 0, none⟩), v, .int .u32 (s : Int)] : Array Value).size) undef, defers := [] } := ⟨by kernel_rfl, rfl⟩
  generalize hA : ({ tmps := #[.pointer (some ⟨U, 0, none⟩), v, .int .u32 (s : Int)] ++ Array.replicate (Yba.f12.ntmps - (#[.pointer (some ⟨U, 0, none⟩), v, .int .u32 (s : Int)] : Array Value).size) undef, defers := [] } : Act) = A at hF0 ⊢
  have t0 : slot A 0 = .pointer (some ⟨U, 0, none⟩) := by rw [← hA]; kernel_rfl
  have t1 : slot A 1 = v := by rw [← hA]; kernel_rfl
  have t2 : slot A 2 = .int .u32 (s : Int) := by rw [← hA]; kernel_rfl
  clear hA
  rw [body12]
  refine me_head U v s w A hF0 t0 t1 t2 (enc_pos hE) _ _ (hide ?_)
  intro A1 o hM1 hO1
  refine wp_block ?_
  have hv0 : v.ownBlock ≠ some w.heap.size := fun h => by have := (hown.lt _ h).2; omega
  have hbel : Below B0 w (w.alloc o) := (Below.refl _ _).alloc hB0 o
  refine loop_rule (fun k A' w' => ∃ v' s' n' l' r' dn, k = (l' ++ r').length ∧ dn ++ (l' ++ r') = l ∧ Mf U w.heap.size v' s' n' A' ∧ Mw U w.heap.size B0 N w v' (m + dn.length) (ys ++ dn.map fun x => .int .u32 ((x : Nat) : Int)) s' n' l' r' w' ∧ w.heap.size < w'.heap.size)
    l.length ⟨v, s, 0, l, [], [], by simp, by simp, hM1, ⟨fun _ => 0, hN.later hbel, hE, rfl, by omega, hO1, hB0, by simpa using hown.alloc o, hv0, hbel⟩, hO1.lt⟩ ?_
  rintro k A2 w2 ⟨v2, s2, n2, l2, r2, dn, rfl, hdn, hM2, hW2, hsz2⟩ R hR hexit
  refine wp_block ?_
  rw [outerOf_is]
  refine wp_seq (me_loop U w.heap.size B0 v2 s2 n2 N w (m + dn.length) _ l2 r2 w2 A2 hM2 hW2 _ (hide ?_))
  intro A3 s3 n3 r3 w3 hM3 hW3 hs3 hl3
  obtain ⟨f, g1, g2, g3, g4, g5, g6, g7, g8, g9⟩ := hW3
  have hdl : dn.length + (l2 ++ r2).length = l.length := by
    have := congrArg List.length hdn
    rw [List.length_append] at this
    exact this
  have hl3' : r3.length + 1 = (l2 ++ r2).length := by rw [← hl3]; rfl
  refine wp_seq (me_app U w.heap.size B0 v2 s3 n3 (m + dn.length) _ w3 A3 hM3 g7 (by omega) (by have := g5.lt; omega) _ (hide ?_))
  intro A4 v4 w4 hM4 hown4 hgrow4
  have hOne : some w.heap.size ≠ v2.ownBlock := fun h => g8 h.symm
  have hs3' : (w3.alloc (.cells #[.int .u32 (s3 : Int)] 26)).heap.size = w3.heap.size + 1 := by show (w3.heap.push _).size = _; simp
  have hblk : ∀ k, k < w3.heap.size → some k ≠ v2.ownBlock → w4.heap[k]? = w3.heap[k]? := fun k hk hne => (hgrow4.block k (by omega) hne).trans (Below.heap_alloc w3 _ k hk)
  have hO4 : w4.rowIs w.heap.size 97 31 (row f) := g5.of_block (hblk _ g5.lt hOne)
  have hb4 : Below B0 w3 w4 := ⟨hgrow4.os, hgrow4.tape, hgrow4.output, by have := hgrow4.size; omega, fun k hk => hblk k (by have := g5.lt; omega) (fun h => by have := (g7.lt k h.symm).1; omega)⟩
  have hv4 : v4.ownBlock ≠ some w.heap.size := by
    intro h
    rcases hown4.2 with ⟨e, _⟩ | ⟨g, c, cur, e, h1, h2, h3⟩
    · rw [e] at h; cases h
    · rw [e] at h
      have hg : g = w.heap.size := by simpa [Value.ownBlock] using h
      subst hg
      obtain ⟨cc, hc1, _⟩ := hO4
      rw [h2] at hc1
      have := Option.some.inj hc1
      injection this with _ e2 _
      cases e2
  have hown4' : w4.ownsRow B0 26 1 v4 (m + (dn ++ [s3]).length) (ys ++ (dn ++ [s3]).map fun x => .int .u32 ((x : Nat) : Int)) := by
    rw [List.length_append, List.map_append, ← List.append_assoc, ← Nat.add_assoc]
    exact hown4
  refine me_end U w.heap.size v4 s3 n3 f w4 A4 hM4 hO4 g4 _ (hide ?_) (hide ?_)
  · intro h0 A5 hF5 h6
    subst h0
    have hr3 : r3 = [] := g3
    have hl : dn ++ [s3] = l := by rw [← hdn, ← hl3, hr3]
    have hpost : bodyPost Yba.prog Yba.f12 (fun e w' => ∃ v', e = .returned v' ∧ w'.ownsRow B0 26 1 v' (m + l.length) (ys ++ l.map fun x => .int .u32 ((x : Nat) : Int)) ∧ Below B0 w w') .ret A5 w4 := by
      refine bodyPost_ret (results_tmp (t := 6) (by kernel_rfl) _ _ _) hF5.2 ⟨v4, ?_, ?_, g9.trans hb4⟩
      · show Ending.returned (slot A5 6) = _
        rw [h6]
      · rw [← hl]; exact hown4'
    exact hexit.out .ret _ _ (by intro h; cases h) hpost
  · intro k A5 hk hM5
    subst hk
    obtain ⟨l5, r5, e5, hE5, hP5⟩ := g3
    exact hR.out (l5 ++ r5).length A5 w4 (by rw [← e5]; omega) ⟨v4, f k, k, l5, r5, dn ++ [s3], rfl, by rw [← hdn, ← hl3, e5]; simp, hM5, ⟨f, g1.later hb4, hE5, hP5, by omega, hO4, g6, hown4', hv4, g9.trans hb4⟩, by have := hgrow4.size; have := g5.lt; omega⟩
end Go.Proofs.Ybulkdfzs.S
