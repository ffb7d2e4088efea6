/-
  pdqsortOrdered at ID: the state of its loop, the parts of its body, walked. Own text.
-/
import Derived.Test.YbulkdfzsSe
import Derived.Test.YbulkdfzsSf
import Derived.Test.YbulkdfzsSg
import Derived.Test.YbulkdfzsSh
namespace Go.Proofs.Ybulkdfzs.S
open Go.RowKit Go.Proofs.Ybulkdfzs.AR
set_option linter.unusedVariables false
set_option linter.unusedSimpArgs false
set_option maxRecDepth 100000

set_option maxRecDepth 100000 in
theorem to_lit134 {a : Act} (h : Fr 134 a) : ∃ u : Nat → Value, a = ⟨List.toArray (u 0 :: u 1 :: u 2 :: u 3 :: u 4 :: u 5 :: u 6 :: u 7 :: u 8 :: u 9 :: u 10 :: u 11 :: u 12 :: u 13 :: u 14 :: u 15 :: u 16 :: u 17 :: u 18 :: u 19 :: u 20 :: u 21 :: u 22 :: u 23 :: u 24 :: u 25 :: u 26 :: u 27 :: u 28 :: u 29 :: u 30 :: u 31 :: u 32 :: u 33 :: u 34 :: u 35 :: u 36 :: u 37 :: u 38 :: u 39 :: u 40 :: u 41 :: u 42 :: u 43 :: u 44 :: u 45 :: u 46 :: u 47 :: u 48 :: u 49 :: u 50 :: u 51 :: u 52 :: u 53 :: u 54 :: u 55 :: u 56 :: u 57 :: u 58 :: u 59 :: u 60 :: u 61 :: u 62 :: u 63 :: u 64 :: u 65 :: u 66 :: u 67 :: u 68 :: u 69 :: u 70 :: u 71 :: u 72 :: u 73 :: u 74 :: u 75 :: u 76 :: u 77 :: u 78 :: u 79 :: u 80 :: u 81 :: u 82 :: u 83 :: u 84 :: u 85 :: u 86 :: u 87 :: u 88 :: u 89 :: u 90 :: u 91 :: u 92 :: u 93 :: u 94 :: u 95 :: u 96 :: u 97 :: u 98 :: u 99 :: u 100 :: u 101 :: u 102 :: u 103 :: u 104 :: u 105 :: u 106 :: u 107 :: u 108 :: u 109 :: u 110 :: u 111 :: u 112 :: u 113 :: u 114 :: u 115 :: u 116 :: u 117 :: u 118 :: u 119 :: u 120 :: u 121 :: u 122 :: u 123 :: u 124 :: u 125 :: u 126 :: u 127 :: u 128 :: u 129 :: u 130 :: u 131 :: u 132 :: u 133 :: []), []⟩ ∧ ∀ i, i < 134 → slot a i = u i := by
  obtain ⟨t, d⟩ := a
  obtain ⟨l⟩ := t
  obtain ⟨h1, h2⟩ := h
  have hl : l.length = 134 := h1
  have hd : d = [] := h2
  subst hd
  have e := toList_range l
  rw [hl] at e
  refine ⟨fun i => l.getD i undef, ?_, fun i hi => by simp [slot]⟩
  generalize hu : (fun i => l.getD i undef) = u at e ⊢
  have e2 : (List.range 134).map u = (u 0 :: u 1 :: u 2 :: u 3 :: u 4 :: u 5 :: u 6 :: u 7 :: u 8 :: u 9 :: u 10 :: u 11 :: u 12 :: u 13 :: u 14 :: u 15 :: u 16 :: u 17 :: u 18 :: u 19 :: u 20 :: u 21 :: u 22 :: u 23 :: u 24 :: u 25 :: u 26 :: u 27 :: u 28 :: u 29 :: u 30 :: u 31 :: u 32 :: u 33 :: u 34 :: u 35 :: u 36 :: u 37 :: u 38 :: u 39 :: u 40 :: u 41 :: u 42 :: u 43 :: u 44 :: u 45 :: u 46 :: u 47 :: u 48 :: u 49 :: u 50 :: u 51 :: u 52 :: u 53 :: u 54 :: u 55 :: u 56 :: u 57 :: u 58 :: u 59 :: u 60 :: u 61 :: u 62 :: u 63 :: u 64 :: u 65 :: u 66 :: u 67 :: u 68 :: u 69 :: u 70 :: u 71 :: u 72 :: u 73 :: u 74 :: u 75 :: u 76 :: u 77 :: u 78 :: u 79 :: u 80 :: u 81 :: u 82 :: u 83 :: u 84 :: u 85 :: u 86 :: u 87 :: u 88 :: u 89 :: u 90 :: u 91 :: u 92 :: u 93 :: u 94 :: u 95 :: u 96 :: u 97 :: u 98 :: u 99 :: u 100 :: u 101 :: u 102 :: u 103 :: u 104 :: u 105 :: u 106 :: u 107 :: u 108 :: u 109 :: u 110 :: u 111 :: u 112 :: u 113 :: u 114 :: u 115 :: u 116 :: u 117 :: u 118 :: u 119 :: u 120 :: u 121 :: u 122 :: u 123 :: u 124 :: u 125 :: u 126 :: u 127 :: u 128 :: u 129 :: u 130 :: u 131 :: u 132 :: u 133 :: []) := by kernel_rfl
  rw [e2] at e
  rw [e]

/-- The body of pdqsort's loop. -/
def loopOf (f : Func) : Code := match seqRest 2 (bodyOf f) with | .block _ (.loop (.block _ c)) => c | c => c

/-- The frame at the head of a round: [x, y) is to be sorted. -/
def St (s : Value) (x y lim : Nat) (wb wp : Bool) (a : Act) : Prop :=
  Fr 134 a ∧ slot a 0 = s ∧ slot a 1 = .int .i64 x ∧ slot a 2 = .int .i64 y ∧ slot a 3 = .int .i64 lim ∧ slot a 8 = .bool wb ∧ slot a 9 = .bool wp
/-- Nothing in [x, y) is less than what lies ahead of it. -/
def Blw (x y : Nat) (d : Nat → Nat) : Prop := x = 0 ∨ ∀ t, x ≤ t → t < y → d (x - 1) ≤ d t
/-- All pairs are in order but those inside [x, y). -/
def Done (lo hi x y : Nat) (d : Nat → Nat) : Prop := ∀ p q, lo ≤ p → p < q → q < hi → ¬ (x ≤ p ∧ q < y) → d p ≤ d q
/-- The world at the head of a round. -/
def Wd (b C lo hi x y : Nat) (d : Nat → Nat) (w0 : World) (dk : Nat → Nat) (w : World) : Prop :=
  w.rowIs b 26 C (row dk) ∧ Below b w0 w ∧ Mi lo hi d dk ∧ Blw x y dk ∧ Done lo hi x y dk

theorem Blw.mi {x y : Nat} {d d' : Nat → Nat} (h : Blw x y d) (m : Mi x y d d') : Blw x y d' := by
  rcases h with h | h
  · exact Or.inl h
  · by_cases e : x = 0
    · exact Or.inl e
    · refine Or.inr fun t h1 h2 => ?_
      have e1 := m.1 (x - 1) (by omega)
      rw [e1]
      exact m.all (p := fun v => d (x - 1) ≤ v) h t h1 h2
theorem Done.mi {lo hi x y : Nat} {d d' : Nat → Nat} (h : Done lo hi x y d) (m : Mi x y d d') (hx : lo ≤ x) (hy : y ≤ hi) : Done lo hi x y d' := by
  intro p q h1 h2 h3 h4
  by_cases hp : x ≤ p ∧ p < y
  · obtain ⟨s, s1, s2, e⟩ := m.2 p hp.1 hp.2
    rw [e, m.1 q (by omega)]
    exact h s q (by omega) (by omega) h3 (by omega)
  · rw [m.1 p hp]
    by_cases hq : x ≤ q ∧ q < y
    · obtain ⟨s, s1, s2, e⟩ := m.2 q hq.1 hq.2
      rw [e]
      exact h p s h1 (by omega) (by omega) (by omega)
    · rw [m.1 q hq]
      exact h p q h1 h2 h3 h4
theorem Wd.step {b C lo hi x y : Nat} {d : Nat → Nat} {w0 : World} {dk : Nat → Nat} {w : World} (h : Wd b C lo hi x y d w0 dk w) (hx : lo ≤ x) (hy : y ≤ hi) {w' : World} {d' : Nat → Nat}
    (hb : Below b w w') (hr : w'.rowIs b 26 C (row d')) (hm : Mi x y dk d') : Wd b C lo hi x y d w0 d' w' :=
  ⟨hr, h.2.1.trans hb, h.2.2.1.trans (hm.mono hx hy), h.2.2.2.1.mi hm, h.2.2.2.2.mi hm hx hy⟩
/-- [x, y) sorted: all is sorted. -/
theorem Wd.fin {b C lo hi x y : Nat} {d : Nat → Nat} {w0 : World} {dk : Nat → Nat} {w : World} (h : Wd b C lo hi x y d w0 dk w) (hx : lo ≤ x) (hy : y ≤ hi) {w' : World}
    (hl : Left b C x y dk w w' (Asc x y)) : Left b C lo hi d w0 w' (Asc lo hi) := by
  obtain ⟨hb, d', hr, hm, ha⟩ := hl
  have h' := h.step hx hy hb hr hm
  refine ⟨h'.2.1, d', hr, h'.2.2.1, fun p q h1 h2 h3 => ?_⟩
  by_cases e : x ≤ p ∧ q < y
  · exact ha p q e.1 h2 e.2
  · exact h'.2.2.2.2 p q h1 h2 h3 e

theorem segLen (b C n cap lo hi x y lim : Nat) (wb wp : Bool) (d : Nat → Nat) (w0 : World) (dk : Nat → Nat) (hx : lo ≤ x) (hxy : x ≤ y) (hy : y ≤ hi) (hhi : hi ≤ n) (hn : n ≤ C) (hC : n ≤ 1000000) (hlim : lim ≤ 64)
    (a : Act) (w : World) (hS : St (.slice (some ⟨b, 0, none⟩) n cap) x y lim wb wp a) (Q : Exit → Act → World → Prop)
    (hnext : Hid (∀ a', St (.slice (some ⟨b, 0, none⟩) n cap) x y lim wb wp a' → slot a' 10 = .int .i64 ((y - x : Nat) : Int) → Q .normal a' w)) :
    Code.wp Yba.prog (seqPart 0 (loopOf Yba.f13)) Q a w := by
  obtain ⟨hF, h0, h1, h2, h3, h8, h9⟩ := hS
  obtain ⟨u, rfl, hu⟩ := to_lit134 hF
  have e0 := (hu 0 (by omega)).symm.trans h0
  have e1 := (hu 1 (by omega)).symm.trans h1
  have e2 := (hu 2 (by omega)).symm.trans h2
  have e3 := (hu 3 (by omega)).symm.trans h3
  have e8 := (hu 8 (by omega)).symm.trans h8
  have e9 := (hu 9 (by omega)).symm.trans h9
  clear hu h0 h1 h2 h3 h8 h9 hF
  conv => arg 2; whnf
  rw [e0, e1, e2, e3, e8, e9]
  clear e0 e1 e2 e3 e8 e9
  go_wp2
  rw [show ((y : Int) - (x : Int)) = ((y - x : Nat) : Int) by omega]
  exact hnext.out _ ⟨⟨rfl, rfl⟩, rfl, rfl, rfl, rfl, rfl, rfl⟩ rfl

set_option maxHeartbeats 2000000 in
theorem segSmall (b C n cap lo hi x y lim : Nat) (wb wp : Bool) (d : Nat → Nat) (w0 : World) (dk : Nat → Nat) (hx : lo ≤ x) (hxy : x ≤ y) (hy : y ≤ hi) (hhi : hi ≤ n) (hn : n ≤ C) (hC : n ≤ 1000000) (hlim : lim ≤ 64)
    (a : Act) (w : World) (hS : St (.slice (some ⟨b, 0, none⟩) n cap) x y lim wb wp a) (h10 : slot a 10 = .int .i64 ((y - x : Nat) : Int)) (hW : Wd b C lo hi x y d w0 dk w) (Q : Exit → Act → World → Prop) (hret : Hid (∀ a' w', Fr 134 a' → Left b C lo hi d w0 w' (Asc lo hi) → Q .ret a' w'))
    (hnext : Hid (∀ a', St (.slice (some ⟨b, 0, none⟩) n cap) x y lim wb wp a' → slot a' 10 = .int .i64 ((y - x : Nat) : Int) → x + 12 < y → Q .normal a' w)) :
    Code.wp Yba.prog (seqPart 1 (loopOf Yba.f13)) Q a w := by
  obtain ⟨hF, h0, h1, h2, h3, h8, h9⟩ := hS
  obtain ⟨u, rfl, hu⟩ := to_lit134 hF
  have e0 := (hu 0 (by omega)).symm.trans h0
  have e1 := (hu 1 (by omega)).symm.trans h1
  have e2 := (hu 2 (by omega)).symm.trans h2
  have e3 := (hu 3 (by omega)).symm.trans h3
  have e8 := (hu 8 (by omega)).symm.trans h8
  have e9 := (hu 9 (by omega)).symm.trans h9
  have e10 := (hu 10 (by omega)).symm.trans h10
  clear h10
  clear hu h0 h1 h2 h3 h8 h9 hF
  conv => arg 2; whnf
  rw [e0, e1, e2, e3, e8, e9, e10]
  clear e0 e1 e2 e3 e8 e9 e10
  obtain ⟨L, hL⟩ : ∃ L, y - x = L := ⟨_, rfl⟩
  rw [hL]
  rw [hL] at hnext
  replace hL := hide hL
  by_cases h12 : L ≤ 12
  · go_wp2_with fail
    refine (insertion b C n cap x y dk _ hW.1 hxy (by omega) hn hC).mono ?_
    rintro e w' ⟨rfl, hl⟩
    go_wp2
    exact hret.out _ _ ⟨rfl, rfl⟩ (hW.fin hx hy hl)
  · go_wp2_with fail
    exact hnext.out _ ⟨⟨rfl, rfl⟩, rfl, rfl, rfl, rfl, rfl, rfl⟩ rfl (by have := hL.out; omega)

set_option maxHeartbeats 2000000 in
theorem segLimit (b C n cap lo hi x y lim : Nat) (wb wp : Bool) (d : Nat → Nat) (w0 : World) (dk : Nat → Nat) (hx : lo ≤ x) (hxy : x ≤ y) (hy : y ≤ hi) (hhi : hi ≤ n) (hn : n ≤ C) (hC : n ≤ 1000000) (hlim : lim ≤ 64)
    (a : Act) (w : World) (hS : St (.slice (some ⟨b, 0, none⟩) n cap) x y lim wb wp a) (L : Nat) (h10 : slot a 10 = .int .i64 (L : Int)) (h12 : x + 12 < y) (hW : Wd b C lo hi x y d w0 dk w) (Q : Exit → Act → World → Prop) (hret : Hid (∀ a' w', Fr 134 a' → Left b C lo hi d w0 w' (Asc lo hi) → Q .ret a' w'))
    (hnext : Hid (∀ a', St (.slice (some ⟨b, 0, none⟩) n cap) x y lim wb wp a' → slot a' 10 = .int .i64 (L : Int) → 0 < lim → Q .normal a' w)) :
    Code.wp Yba.prog (seqPart 2 (loopOf Yba.f13)) Q a w := by
  obtain ⟨hF, h0, h1, h2, h3, h8, h9⟩ := hS
  obtain ⟨u, rfl, hu⟩ := to_lit134 hF
  have e0 := (hu 0 (by omega)).symm.trans h0
  have e1 := (hu 1 (by omega)).symm.trans h1
  have e2 := (hu 2 (by omega)).symm.trans h2
  have e3 := (hu 3 (by omega)).symm.trans h3
  have e8 := (hu 8 (by omega)).symm.trans h8
  have e9 := (hu 9 (by omega)).symm.trans h9
  have e10 := (hu 10 (by omega)).symm.trans h10
  clear h10
  clear hu h0 h1 h2 h3 h8 h9 hF
  conv => arg 2; whnf
  rw [e0, e1, e2, e3, e8, e9, e10]
  clear e0 e1 e2 e3 e8 e9 e10
  by_cases hl0 : lim = 0
  · have hb0 : ((lim : Int) == 0) = true := by simp; omega
    clear hl0
    go_wp2_with fail
    refine (heapSort b C n cap x y dk _ hW.1 (by omega) (by omega) hn hC).mono ?_
    rintro e w' ⟨rfl, hl⟩
    go_wp2
    exact hret.out _ _ ⟨rfl, rfl⟩ (hW.fin hx hy hl)
  · have hb0 : ((lim : Int) == 0) = false := by simp; omega
    go_wp2_with fail
    exact hnext.out _ ⟨⟨rfl, rfl⟩, rfl, rfl, rfl, rfl, rfl, rfl⟩ rfl (by omega)

set_option maxHeartbeats 2000000 in
theorem segBreak (b C n cap lo hi x y lim : Nat) (wb wp : Bool) (d : Nat → Nat) (w0 : World) (dk : Nat → Nat) (hx : lo ≤ x) (hxy : x ≤ y) (hy : y ≤ hi) (hhi : hi ≤ n) (hn : n ≤ C) (hC : n ≤ 1000000) (hlim : lim ≤ 64)
    (a : Act) (w : World) (hS : St (.slice (some ⟨b, 0, none⟩) n cap) x y lim wb wp a) (L : Nat) (h10 : slot a 10 = .int .i64 (L : Int)) (h12 : x + 12 < y) (hl0 : 0 < lim) (hW : Wd b C lo hi x y d w0 dk w) (Q : Exit → Act → World → Prop)
    (hnext : Hid (∀ a' w' lim' dk', St (.slice (some ⟨b, 0, none⟩) n cap) x y lim' wb wp a' → slot a' 10 = .int .i64 (L : Int) → lim' ≤ 64 → Wd b C lo hi x y d w0 dk' w' → Q .normal a' w')) :
    Code.wp Yba.prog (seqPart 3 (loopOf Yba.f13)) Q a w := by
  obtain ⟨hF, h0, h1, h2, h3, h8, h9⟩ := hS
  obtain ⟨u, rfl, hu⟩ := to_lit134 hF
  have e0 := (hu 0 (by omega)).symm.trans h0
  have e1 := (hu 1 (by omega)).symm.trans h1
  have e2 := (hu 2 (by omega)).symm.trans h2
  have e3 := (hu 3 (by omega)).symm.trans h3
  have e8 := (hu 8 (by omega)).symm.trans h8
  have e9 := (hu 9 (by omega)).symm.trans h9
  have e10 := (hu 10 (by omega)).symm.trans h10
  clear h10
  clear hu h0 h1 h2 h3 h8 h9 hF
  conv => arg 2; whnf
  rw [e0, e1, e2, e3, e8, e9, e10]
  clear e0 e1 e2 e3 e8 e9 e10
  cases wb
  · go_wp2_with fail
    refine (breakPatterns b C n cap x y dk _ hW.1 h12 (by omega) hn hC).mono ?_
    rintro e w' ⟨rfl, hb', d', hr', hm', _⟩
    go_wp2
    rw [show ((lim : Int) - 1) = ((lim - 1 : Nat) : Int) by omega]
    exact hnext.out _ _ (lim - 1) d' ⟨⟨rfl, rfl⟩, rfl, rfl, rfl, rfl, rfl, rfl⟩ rfl (by omega) (hW.step hx hy hb' hr' hm')
  · go_wp2_with fail
    exact hnext.out _ _ lim dk ⟨⟨rfl, rfl⟩, rfl, rfl, rfl, rfl, rfl, rfl⟩ rfl hlim hW

set_option maxHeartbeats 2000000 in
theorem segPivot (b C n cap lo hi x y lim : Nat) (wb wp : Bool) (d : Nat → Nat) (w0 : World) (dk : Nat → Nat) (hx : lo ≤ x) (hxy : x ≤ y) (hy : y ≤ hi) (hhi : hi ≤ n) (hn : n ≤ C) (hC : n ≤ 1000000) (hlim : lim ≤ 64)
    (a : Act) (w : World) (hS : St (.slice (some ⟨b, 0, none⟩) n cap) x y lim wb wp a) (L : Nat) (h10 : slot a 10 = .int .i64 (L : Int)) (h12 : x + 12 < y) (hW : Wd b C lo hi x y d w0 dk w) (Q : Exit → Act → World → Prop)
    (hnext : Hid (∀ a' w' pv hint, St (.slice (some ⟨b, 0, none⟩) n cap) x y lim wb wp a' → slot a' 10 = .int .i64 (L : Int) → slot a' 11 = .int .i64 ((pv : Nat) : Int) → slot a' 12 = .int .i64 ((hint : Nat) : Int) → x ≤ pv → pv < y → Wd b C lo hi x y d w0 dk w' → Q .normal a' w')) :
    Code.wp Yba.prog (seqPart 4 (loopOf Yba.f13)) Q a w := by
  obtain ⟨hF, h0, h1, h2, h3, h8, h9⟩ := hS
  obtain ⟨u, rfl, hu⟩ := to_lit134 hF
  have e0 := (hu 0 (by omega)).symm.trans h0
  have e1 := (hu 1 (by omega)).symm.trans h1
  have e2 := (hu 2 (by omega)).symm.trans h2
  have e3 := (hu 3 (by omega)).symm.trans h3
  have e8 := (hu 8 (by omega)).symm.trans h8
  have e9 := (hu 9 (by omega)).symm.trans h9
  have e10 := (hu 10 (by omega)).symm.trans h10
  clear h10
  clear hu h0 h1 h2 h3 h8 h9 hF
  conv => arg 2; whnf
  rw [e0, e1, e2, e3, e8, e9, e10]
  clear e0 e1 e2 e3 e8 e9 e10
  go_wp2_with fail
  refine (choosePivot b C n cap x y dk _ hW.1 h12 (by omega) hn hC).mono ?_
  rintro e w' ⟨pv, hint, rfl, p1, p2, hr', hb'⟩
  go_wp2
  exact hnext.out _ _ pv hint ⟨⟨rfl, rfl⟩, rfl, rfl, rfl, rfl, rfl, rfl⟩ rfl rfl rfl p1 p2 (hW.step hx hy hb' hr' (Mi.refl _ _ _))

set_option maxHeartbeats 2000000 in
theorem segTurn (b C n cap lo hi x y lim : Nat) (wb wp : Bool) (d : Nat → Nat) (w0 : World) (dk : Nat → Nat) (hx : lo ≤ x) (hxy : x ≤ y) (hy : y ≤ hi) (hhi : hi ≤ n) (hn : n ≤ C) (hC : n ≤ 1000000) (hlim : lim ≤ 64)
    (a : Act) (w : World) (hS : St (.slice (some ⟨b, 0, none⟩) n cap) x y lim wb wp a) (L pv hint : Nat) (h10 : slot a 10 = .int .i64 (L : Int)) (h11 : slot a 11 = .int .i64 (pv : Int)) (h12 : slot a 12 = .int .i64 (hint : Int)) (p1 : x ≤ pv) (p2 : pv < y) (hW : Wd b C lo hi x y d w0 dk w) (Q : Exit → Act → World → Prop)
    (hnext : Hid (∀ a' w' pv hint dk', St (.slice (some ⟨b, 0, none⟩) n cap) x y lim wb wp a' → slot a' 10 = .int .i64 (L : Int) → slot a' 11 = .int .i64 ((pv : Nat) : Int) → slot a' 12 = .int .i64 ((hint : Nat) : Int) → x ≤ pv → pv < y → Wd b C lo hi x y d w0 dk' w' → Q .normal a' w')) :
    Code.wp Yba.prog (seqPart 5 (loopOf Yba.f13)) Q a w := by
  obtain ⟨hF, h0, h1, h2, h3, h8, h9⟩ := hS
  obtain ⟨u, rfl, hu⟩ := to_lit134 hF
  have e0 := (hu 0 (by omega)).symm.trans h0
  have e1 := (hu 1 (by omega)).symm.trans h1
  have e2 := (hu 2 (by omega)).symm.trans h2
  have e3 := (hu 3 (by omega)).symm.trans h3
  have e8 := (hu 8 (by omega)).symm.trans h8
  have e9 := (hu 9 (by omega)).symm.trans h9
  have e10 := (hu 10 (by omega)).symm.trans h10
  clear h10
  have e11 := (hu 11 (by omega)).symm.trans h11
  clear h11
  have e12 := (hu 12 (by omega)).symm.trans h12
  clear h12
  clear hu h0 h1 h2 h3 h8 h9 hF
  conv => arg 2; whnf
  rw [e0, e1, e2, e3, e8, e9, e10, e11, e12]
  clear e0 e1 e2 e3 e8 e9 e10 e11 e12
  by_cases h2 : hint = 2
  · have hb2 : ((hint : Int) == 2) = true := by simp; omega
    clear h2
    go_wp2_with fail
    refine (reverse b C n cap x y dk _ hW.1 (by omega) (by omega) hn hC).mono ?_
    rintro e w' ⟨rfl, hb', d', hr', hm', _⟩
    go_wp2
    rw [show ((y : Int) - 1 - ((pv : Int) - (x : Int))) = ((y - 1 - (pv - x) : Nat) : Int) by omega]
    exact hnext.out _ _ (y - 1 - (pv - x)) 1 d' ⟨⟨rfl, rfl⟩, rfl, rfl, rfl, rfl, rfl, rfl⟩ rfl rfl rfl (by omega) (by omega) (hW.step hx hy hb' hr' hm')
  · have hb2 : ((hint : Int) == 2) = false := by simp; omega
    go_wp2_with fail
    exact hnext.out _ _ pv hint dk ⟨⟨rfl, rfl⟩, rfl, rfl, rfl, rfl, rfl, rfl⟩ rfl rfl rfl p1 p2 hW

set_option maxHeartbeats 2000000 in
theorem segPartial (b C n cap lo hi x y lim : Nat) (wb wp : Bool) (d : Nat → Nat) (w0 : World) (dk : Nat → Nat) (hx : lo ≤ x) (hxy : x ≤ y) (hy : y ≤ hi) (hhi : hi ≤ n) (hn : n ≤ C) (hC : n ≤ 1000000) (hlim : lim ≤ 64)
    (a : Act) (w : World) (hS : St (.slice (some ⟨b, 0, none⟩) n cap) x y lim wb wp a) (L pv hint : Nat) (h10 : slot a 10 = .int .i64 (L : Int)) (h11 : slot a 11 = .int .i64 (pv : Int)) (h12 : slot a 12 = .int .i64 (hint : Int)) (p1 : x ≤ pv) (p2 : pv < y) (hW : Wd b C lo hi x y d w0 dk w) (Q : Exit → Act → World → Prop) (hret : Hid (∀ a' w', Fr 134 a' → Left b C lo hi d w0 w' (Asc lo hi) → Q .ret a' w'))
    (hnext : Hid (∀ a' w' dk', St (.slice (some ⟨b, 0, none⟩) n cap) x y lim wb wp a' → slot a' 10 = .int .i64 (L : Int) → slot a' 11 = .int .i64 ((pv : Nat) : Int) → Wd b C lo hi x y d w0 dk' w' → Q .normal a' w')) :
    Code.wp Yba.prog (seqPart 6 (loopOf Yba.f13)) Q a w := by
  obtain ⟨hF, h0, h1, h2, h3, h8, h9⟩ := hS
  obtain ⟨u, rfl, hu⟩ := to_lit134 hF
  have e0 := (hu 0 (by omega)).symm.trans h0
  have e1 := (hu 1 (by omega)).symm.trans h1
  have e2 := (hu 2 (by omega)).symm.trans h2
  have e3 := (hu 3 (by omega)).symm.trans h3
  have e8 := (hu 8 (by omega)).symm.trans h8
  have e9 := (hu 9 (by omega)).symm.trans h9
  have e10 := (hu 10 (by omega)).symm.trans h10
  clear h10
  have e11 := (hu 11 (by omega)).symm.trans h11
  clear h11
  have e12 := (hu 12 (by omega)).symm.trans h12
  clear h12
  clear hu h0 h1 h2 h3 h8 h9 hF
  conv => arg 2; whnf
  rw [e0, e1, e2, e3, e8, e9, e10, e11, e12]
  clear e0 e1 e2 e3 e8 e9 e10 e11 e12
  by_cases hall : wb = true ∧ wp = true ∧ hint = 1
  · obtain ⟨rfl, rfl, hh⟩ := hall
    have hb2 : ((hint : Int) == 1) = true := by simp; omega
    clear hh
    go_wp2_with fail
    refine (partialIns b C n cap x y dk _ hW.1 (by omega) (by omega) hn hC hW.2.2.2.1).mono ?_
    rintro e w' ⟨p, rfl, hb', d', hr', hm', ha'⟩
    cases p
    · go_wp2
      exact hnext.out _ _ d' ⟨⟨rfl, rfl⟩, rfl, rfl, rfl, rfl, rfl, rfl⟩ rfl rfl (hW.step hx hy hb' hr' hm')
    · go_wp2
      exact hret.out _ _ ⟨rfl, rfl⟩ (hW.fin hx hy ⟨hb', d', hr', hm', by first | exact ha' rfl | exact ha' trivial⟩)
  · cases wb
    · go_wp2_with fail
      exact hnext.out _ _ dk ⟨⟨rfl, rfl⟩, rfl, rfl, rfl, rfl, rfl, rfl⟩ rfl rfl hW
    · cases wp
      · go_wp2_with fail
        exact hnext.out _ _ dk ⟨⟨rfl, rfl⟩, rfl, rfl, rfl, rfl, rfl, rfl⟩ rfl rfl hW
      · have hb2 : ((hint : Int) == 1) = false := by simp at hall ⊢; omega
        clear hall
        go_wp2_with fail
        exact hnext.out _ _ dk ⟨⟨rfl, rfl⟩, rfl, rfl, rfl, rfl, rfl, rfl⟩ rfl rfl hW
end Go.Proofs.Ybulkdfzs.S
