/-
  zzs5361bcheck, walked: the loops, the tests. Own text.
-/
import Derived.Test.YbulkdfzsCk
namespace Go.Proofs.Ybulkdfzs.S
open Go.RowKit Go.Proofs.Ybulkdfzs.AR Go.Proofs.Ybulkdfzs.Pl
set_option linter.unusedVariables false
set_option linter.unusedSimpArgs false
set_option maxRecDepth 100000

/-- The row for dst behind k rounds. -/
def dF (z : List Int) (k j : Nat) : Value := .int .u32 (if j < k then z.getD j 0 else 0)

set_option maxHeartbeats 2000000 in
theorem ck6 (D : Nat) (a1 : Option Addr) (l1 c1 : Nat) (z1 : List Int) (hl1 : l1 ≤ 1024) (v5 v6 v7 v8 : Value) (w0 w : World) (hD : w0.heap.size ≤ D) (harg : Arg .u32 w0 a1 l1 z1) (A : Act) (hF : Fr 101 A) (h1 : slot A 1 = .slice a1 l1 c1) (h5 : slot A 5 = v5) (h6 : slot A 6 = v6) (h7 : slot A 7 = v7) (h8 : slot A 8 = v8) (h9 : slot A 9 = .slice (some ⟨D, 0, none⟩) l1 l1)
    (hrow : w.rowIs D 26 l1 (dF z1 0)) (hb : Below D w0 w) (Q : Exit → Act → World → Prop)
    (hnext : Hid (∀ A' w', Fr 101 A' → slot A' 1 = .slice a1 l1 c1 → slot A' 5 = v5 → slot A' 6 = v6 → slot A' 7 = v7 → slot A' 8 = v8 → slot A' 9 = .slice (some ⟨D, 0, none⟩) l1 l1 → w'.rowIs D 26 l1 (dF z1 l1) → Below D w w' → Q .normal A' w')) :
    Code.wp Yba.prog (seqPart 9 (bodyOf Yba.f7)) Q A w := by
  obtain ⟨u, rfl, hu⟩ := to_lit101 hF
  have e1 := (hu 1 (by omega)).symm.trans h1
  have e5 := (hu 5 (by omega)).symm.trans h5
  have e6 := (hu 6 (by omega)).symm.trans h6
  have e7 := (hu 7 (by omega)).symm.trans h7
  have e8 := (hu 8 (by omega)).symm.trans h8
  have e9 := (hu 9 (by omega)).symm.trans h9
  clear hu hF h1 h5 h6 h7 h8 h9
  conv => arg 2; whnf
  rw [e1, e5, e6, e7, e8, e9]
  clear e1 e5 e6 e7 e8 e9
  go_wp2
  refine loop_rule (fun m A' w' => ∃ k, m + k = l1 ∧ Fr 101 A' ∧ slot A' 1 = .slice a1 l1 c1 ∧ slot A' 5 = v5 ∧ slot A' 6 = v6 ∧ slot A' 7 = v7 ∧ slot A' 8 = v8 ∧ slot A' 9 = .slice (some ⟨D, 0, none⟩) l1 l1 ∧ slot A' 37 = .int .i64 (l1 : Int) ∧ slot A' 38 = .int .i64 ((k : Nat) : Int) ∧ w'.rowIs D 26 l1 (dF z1 k) ∧ Below D w w')
    l1 ⟨0, rfl, ⟨rfl, rfl⟩, rfl, rfl, rfl, rfl, rfl, rfl, rfl, rfl, hrow, Below.refl _ _⟩ ?_
  clear hrow u
  rintro m A w' ⟨k, hk, hF, h1, h5, h6, h7, h8, h9, h37, h38, hrow, hb'⟩ R hR hexit
  obtain ⟨u, rfl, hu⟩ := to_lit101 hF
  have e1 := (hu 1 (by omega)).symm.trans h1
  have e5 := (hu 5 (by omega)).symm.trans h5
  have e6 := (hu 6 (by omega)).symm.trans h6
  have e7 := (hu 7 (by omega)).symm.trans h7
  have e8 := (hu 8 (by omega)).symm.trans h8
  have e9 := (hu 9 (by omega)).symm.trans h9
  have e37 := (hu 37 (by omega)).symm.trans h37
  have e38 := (hu 38 (by omega)).symm.trans h38
  clear hu hF h1 h5 h6 h7 h8 h9 h37 h38
  rw [e1, e5, e6, e7, e8, e9, e37, e38]
  clear e1 e5 e6 e7 e8 e9 e37 e38
  by_cases hkl : k < l1
  · obtain ⟨ab, off, ha, hc, hlt⟩ := harg k hkl
    have hcA : w'.cell? ⟨ab, off + k, none⟩ = some (.int .u32 (z1.getD k 0)) := ((hb.trans hb').cell (p := ⟨ab, off + k, none⟩) (by show ab < D; omega)).trans hc
    clear hc
    have hne : ab < D := by omega
    have hcD : w'.cell? ⟨D, k, none⟩ = some (dF z1 k k) := hrow.cell hkl
    have hfD : ∀ t, w'.frozen? ⟨D, t, none⟩ = false := fun t => hrow.frozen t
    generalize dF z1 k k = old at hcD
    replace hrow := hide hrow
    replace hb' := hide hb'
    subst ha
    generalize hzk : z1.getD k 0 = zk at hcA
    replace hzk := hide hzk
    replace hk := hide hk
    replace hb := hide hb
    clear harg
    go_wp2
    refine hR.out (m - 1) _ _ (by have := hk.out; omega) ⟨k + 1, by have := hk.out; omega, ⟨rfl, rfl⟩, rfl, rfl, rfl, rfl, rfl, rfl, rfl, ?_, ?_, hb'.out.setCell (p := ⟨D, k, none⟩) (Nat.le_refl _) _⟩
    · show Value.int .i64 _ = _
      congr 1
    · refine (hrow.out.set k _).congr fun j hj => ?_
      unfold dF
      by_cases e : j = k
      · subst e
        rw [if_pos rfl, if_pos (by omega), hzk.out]
      · rw [if_neg e]
        by_cases e2 : j < k
        · rw [if_pos e2, if_pos (by omega)]
        · rw [if_neg e2, if_neg (by omega)]
  · have hkl' : k = l1 := by omega
    subst hkl'
    clear hkl hk harg
    go_wp2
    exact hexit.out (.exit 0) _ _ (by intro h; cases h) (show Q .normal _ _ from hnext.out _ w' ⟨rfl, rfl⟩ rfl rfl rfl rfl rfl rfl hrow hb')

/-- appendMembers. -/
theorem ck7 (U : Nat) (v1 v5 v7 v8 v9 : Value) (w : World) (A : Act) (hF : Fr 101 A) (h1 : slot A 1 = v1) (h5 : slot A 5 = v5) (h6 : slot A 6 = .pointer (some ⟨U, 0, none⟩)) (h7 : slot A 7 = v7) (h8 : slot A 8 = v8) (h9 : slot A 9 = v9) (Q : Exit → Act → World → Prop) (R : Value → World → Prop)
    (hcall : Hid (Calls Yba.prog 12 #[.pointer (some ⟨U, 0, none⟩), v9, v7] w fun e w' => ∃ v', e = .returned v' ∧ R v' w'))
    (hnext : Hid (∀ A' v' w', Fr 101 A' → slot A' 1 = v1 → slot A' 5 = v5 → slot A' 6 = .pointer (some ⟨U, 0, none⟩) → slot A' 8 = v8 → slot A' 11 = v' → R v' w' → Q .normal A' w')) :
    Code.wp Yba.prog (seqPart 10 (bodyOf Yba.f7)) Q A w := by
  obtain ⟨u, rfl, hu⟩ := to_lit101 hF
  have e1 := (hu 1 (by omega)).symm.trans h1
  have e5 := (hu 5 (by omega)).symm.trans h5
  have e6 := (hu 6 (by omega)).symm.trans h6
  have e7 := (hu 7 (by omega)).symm.trans h7
  have e8 := (hu 8 (by omega)).symm.trans h8
  have e9 := (hu 9 (by omega)).symm.trans h9
  clear hu hF h1 h5 h6 h7 h8 h9
  conv => arg 2; whnf
  rw [e1, e5, e6, e7, e8, e9]
  clear e1 e5 e6 e7 e8 e9
  go_wp2_with fail
  refine hcall.out.mono ?_
  rintro e w' ⟨v', rfl, hR⟩
  go_wp2
  exact hnext.out _ v' w' ⟨rfl, rfl⟩ rfl rfl rfl rfl rfl hR

/-- The two tests of lengths. -/
theorem ck8 (U K m l1 : Nat) (ao a1 a5 a11 : Option Addr) (gc c1 c5 c11 : Nat) (w : World) (A : Act) (hF : Fr 101 A) (h1 : slot A 1 = .slice a1 l1 c1) (h5 : slot A 5 = .slice a5 m c5) (h6 : slot A 6 = .pointer (some ⟨U, 0, none⟩)) (h8 : slot A 8 = .int .i64 (K : Int)) (h11 : slot A 11 = .slice a11 (l1 + m) c11) (hl1 : l1 ≤ 1024) (hm : m ≤ 1024) (hK : K ≤ 1024)
    (hcU : w.cell? ⟨U, 11, none⟩ = some (.slice ao K gc)) (c : Code) (Q : Exit → Act → World → Prop)
    (hnext : Hid (∀ A', Fr 101 A' → slot A' 1 = .slice a1 l1 c1 → slot A' 5 = .slice a5 m c5 → slot A' 11 = .slice a11 (l1 + m) c11 → c.wp Yba.prog Q A' w)) :
    Code.wp Yba.prog (Code.seq (seqPart 11 (bodyOf Yba.f7)) (Code.seq (seqPart 12 (bodyOf Yba.f7)) c)) Q A w := by
  obtain ⟨u, rfl, hu⟩ := to_lit101 hF
  have e1 := (hu 1 (by omega)).symm.trans h1
  have e5 := (hu 5 (by omega)).symm.trans h5
  have e6 := (hu 6 (by omega)).symm.trans h6
  have e8 := (hu 8 (by omega)).symm.trans h8
  have e11 := (hu 11 (by omega)).symm.trans h11
  clear hu hF h1 h5 h6 h8 h11
  conv => arg 2; arg 1; whnf
  conv => arg 2; arg 2; arg 1; whnf
  rw [e1, e5, e6, e8, e11]
  clear e1 e5 e6 e8 e11
  go_wp2
  exact hnext.out _ ⟨rfl, rfl⟩ rfl rfl rfl

set_option maxHeartbeats 2000000 in
/-- What stood in dst stands in front. -/
theorem ck9 (G : Nat) (a1 : Option Addr) (l1 c1 L gc : Nat) (z1 : List Int) (hl1 : l1 ≤ 1024) (hL : l1 ≤ L) (v5 : Value) (w : World) (harg : ∀ i, i < l1 → ∃ ab off, a1 = some ⟨ab, off, none⟩ ∧ w.cell? ⟨ab, off + i, none⟩ = some (.int .u32 (z1.getD i 0))) (hG : ∀ i, i < l1 → w.cell? ⟨G, i, none⟩ = some (.int .u32 (z1.getD i 0)))
    (A : Act) (hF : Fr 101 A) (h1 : slot A 1 = .slice a1 l1 c1) (h5 : slot A 5 = v5) (h11 : slot A 11 = .slice (some ⟨G, 0, none⟩) L gc) (Q : Exit → Act → World → Prop)
    (hnext : Hid (∀ A' q, Fr 101 A' → slot A' 1 = .slice a1 l1 c1 → slot A' 5 = v5 → slot A' 11 = .slice (some ⟨G, 0, none⟩) L gc → Q .normal A' (w.drewN q))) :
    Code.wp Yba.prog (seqPart 13 (bodyOf Yba.f7)) Q A w := by
  obtain ⟨u, rfl, hu⟩ := to_lit101 hF
  have e1 := (hu 1 (by omega)).symm.trans h1
  have e5 := (hu 5 (by omega)).symm.trans h5
  have e11 := (hu 11 (by omega)).symm.trans h11
  clear hu hF h1 h5 h11
  conv => arg 2; whnf
  rw [e1, e5, e11]
  clear e1 e5 e11
  go_wp2
  refine loop_rule (fun m A' w' => ∃ k q, m + k = l1 ∧ Fr 101 A' ∧ slot A' 1 = .slice a1 l1 c1 ∧ slot A' 5 = v5 ∧ slot A' 11 = .slice (some ⟨G, 0, none⟩) L gc ∧ slot A' 69 = .int .i64 (l1 : Int) ∧ slot A' 70 = .int .i64 ((k : Nat) : Int) ∧ w' = w.drewN q)
    l1 ⟨0, 0, rfl, ⟨rfl, rfl⟩, rfl, rfl, rfl, rfl, rfl, rfl⟩ ?_
  clear u
  rintro m A w' ⟨k, q, hk, hF, h1, h5, h11, h69, h70, rfl⟩ R hR hexit
  obtain ⟨u, rfl, hu⟩ := to_lit101 hF
  have e1 := (hu 1 (by omega)).symm.trans h1
  have e5 := (hu 5 (by omega)).symm.trans h5
  have e11 := (hu 11 (by omega)).symm.trans h11
  have e69 := (hu 69 (by omega)).symm.trans h69
  have e70 := (hu 70 (by omega)).symm.trans h70
  clear hu hF h1 h5 h11 h69 h70
  rw [e1, e5, e11, e69, e70]
  clear e1 e5 e11 e69 e70
  by_cases hkl : k < l1
  · obtain ⟨ab, off, ha, hcA⟩ := harg k hkl
    have hcG := hG k hkl
    subst ha
    generalize z1.getD k 0 = zk at hcA hcG
    have hkL : k < L := by omega
    replace hk := hide hk
    clear harg hG
    obtain ⟨w3, hw3⟩ : ∃ w3, w.drewN q = w3 := ⟨_, rfl⟩
    have hcA3 : w3.cell? ⟨ab, off + k, none⟩ = some (.int .u32 zk) := hw3 ▸ hcA
    have hcG3 : w3.cell? ⟨G, k, none⟩ = some (.int .u32 zk) := hw3 ▸ hcG
    rw [hw3]
    replace hw3 := hide hw3
    clear hcA hcG
    go_wp2
    go_quiet (fail)
    go_wp2
    refine hR.out (m - 1) _ _ (by have := hk.out; omega) ⟨k + 1, q + nq, by have := hk.out; omega, ⟨rfl, rfl⟩, rfl, rfl, rfl, rfl, ?_, ?_⟩
    · show Value.int .i64 _ = _
      congr 1
    · rw [← hw3.out]; exact World.drewN_drewN _ _ _
  · have hkl' : k = l1 := by omega
    subst hkl'
    clear hkl hk harg hG
    go_wp2
    exact hexit.out (.exit 2) _ _ (by intro h; cases h) (show Q .normal _ _ from hnext.out _ q ⟨rfl, rfl⟩ rfl rfl rfl)

set_option maxHeartbeats 2000000 in
/-- The ids stand behind it. -/
theorem ck10 (G g : Nat) (a1 : Option Addr) (l1 c1 m5 c5 gc : Nat) (f : Nat → Nat) (hl1 : l1 ≤ 1024) (hm : m5 ≤ 1024) (w : World) (hI : ∀ i, i < m5 → w.cell? ⟨g, i, none⟩ = some (.int .u32 ((f i : Nat) : Int))) (hG : ∀ i, i < m5 → w.cell? ⟨G, l1 + i, none⟩ = some (.int .u32 ((f i : Nat) : Int)))
    (A : Act) (hF : Fr 101 A) (h1 : slot A 1 = .slice a1 l1 c1) (h5 : slot A 5 = .slice (some ⟨g, 0, none⟩) m5 c5) (h11 : slot A 11 = .slice (some ⟨G, 0, none⟩) (l1 + m5) gc) (Q : Exit → Act → World → Prop)
    (hnext : Hid (∀ A' q, Fr 101 A' → Q .normal A' (w.drewN q))) :
    Code.wp Yba.prog (seqPart 14 (bodyOf Yba.f7)) Q A w := by
  obtain ⟨L, hLe⟩ : ∃ L, l1 + m5 = L := ⟨_, rfl⟩
  rw [hLe] at h11
  obtain ⟨u, rfl, hu⟩ := to_lit101 hF
  have e1 := (hu 1 (by omega)).symm.trans h1
  have e5 := (hu 5 (by omega)).symm.trans h5
  have e11 := (hu 11 (by omega)).symm.trans h11
  clear hu hF h1 h5 h11
  conv => arg 2; whnf
  rw [e1, e5, e11]
  clear e1 e5 e11
  go_wp2
  refine loop_rule (fun m A' w' => ∃ k q, m + k = m5 ∧ Fr 101 A' ∧ slot A' 1 = .slice a1 l1 c1 ∧ slot A' 5 = .slice (some ⟨g, 0, none⟩) m5 c5 ∧ slot A' 11 = .slice (some ⟨G, 0, none⟩) L gc ∧ slot A' 84 = .int .i64 (m5 : Int) ∧ slot A' 85 = .int .i64 ((k : Nat) : Int) ∧ w' = w.drewN q)
    m5 ⟨0, 0, rfl, ⟨rfl, rfl⟩, rfl, rfl, rfl, rfl, rfl, rfl⟩ ?_
  clear u
  rintro m A w' ⟨k, q, hk, hF, h1, h5, h11, h84, h85, rfl⟩ R hR hexit
  obtain ⟨u, rfl, hu⟩ := to_lit101 hF
  have e1 := (hu 1 (by omega)).symm.trans h1
  have e5 := (hu 5 (by omega)).symm.trans h5
  have e11 := (hu 11 (by omega)).symm.trans h11
  have e84 := (hu 84 (by omega)).symm.trans h84
  have e85 := (hu 85 (by omega)).symm.trans h85
  clear hu hF h1 h5 h11 h84 h85
  rw [e1, e5, e11, e84, e85]
  clear e1 e5 e11 e84 e85
  by_cases hkl : k < m5
  · have hcA := hI k hkl
    have hcG := hG k hkl
    generalize f k = zk at hcA hcG
    have hkL : l1 + k < L := by omega
    replace hk := hide hk
    replace hLe := hide hLe
    clear hI hG
    obtain ⟨w3, hw3⟩ : ∃ w3, w.drewN q = w3 := ⟨_, rfl⟩
    have hcA3 : w3.cell? ⟨g, k, none⟩ = some (.int .u32 (zk : Int)) := hw3 ▸ hcA
    have hcG3 : w3.cell? ⟨G, l1 + k, none⟩ = some (.int .u32 (zk : Int)) := hw3 ▸ hcG
    rw [hw3]
    replace hw3 := hide hw3
    clear hcA hcG
    go_wp2
    go_quiet (fail)
    go_wp2
    refine hR.out (m - 1) _ _ (by have := hk.out; omega) ⟨k + 1, q + nq, by have := hk.out; omega, ⟨rfl, rfl⟩, rfl, rfl, rfl, rfl, ?_, ?_⟩
    · show Value.int .i64 _ = _
      congr 1
    · rw [← hw3.out]; exact World.drewN_drewN _ _ _
  · have hkl' : k = m5 := by omega
    subst hkl'
    clear hkl hk hI hG
    go_wp2
    exact hexit.out (.exit 4) _ _ (by intro h; cases h) (show Q .normal _ _ from hnext.out _ q ⟨rfl, rfl⟩)

theorem ck11 (w : World) (A : Act) (hF : Fr 101 A) (Q : Exit → Act → World → Prop) (hnext : Hid (∀ A', Fr 101 A' → slot A' 4 = .bool true → Q .normal A' w)) : Code.wp Yba.prog (seqPart 15 (bodyOf Yba.f7)) Q A w := by
  obtain ⟨u, rfl, hu⟩ := to_lit101 hF
  clear hu hF
  conv => arg 2; whnf
  go_wp2
  exact hnext.out _ ⟨rfl, rfl⟩ rfl
end Go.Proofs.Ybulkdfzs.S
