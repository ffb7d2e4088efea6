/-
  pdqsortOrdered at ID: the last parts of its loop, the whole; slices.Sort. Own text.
-/
import Derived.Test.YbulkdfzsSi
namespace Go.Proofs.Ybulkdfzs.S
open Go.RowKit Go.Proofs.Ybulkdfzs.AR
set_option linter.unusedVariables false
set_option linter.unusedSimpArgs false
set_option maxRecDepth 100000

theorem Wd.eq {b C lo hi x y mid v : Nat} {d : Nat → Nat} {w0 : World} {dk d' : Nat → Nat} {w w' : World} (h : Wd b C lo hi x y d w0 dk w) (hx : lo ≤ x) (hy : y ≤ hi) (hm1 : x < mid) (hm2 : mid ≤ y)
    (hb : Below b w w') (hr : w'.rowIs b 26 C (row d')) (hm : Mi x y dk d') (h1 : ∀ t, x ≤ t → t < mid → d' t = v) (h2 : ∀ t, mid ≤ t → t < y → v < d' t) : Wd b C lo hi mid y d w0 d' w' := by
  have h' := h.step hx hy hb hr hm
  refine ⟨hr, h'.2.1, h'.2.2.1, Or.inr fun t k1 k2 => ?_, fun p q k1 k2 k3 k4 => ?_⟩
  · rw [h1 (mid - 1) (by omega) (by omega)]; exact Nat.le_of_lt (h2 t k1 k2)
  · by_cases e : x ≤ p ∧ q < y
    · rw [h1 p e.1 (by omega)]
      by_cases e2 : q < mid
      · rw [h1 q (by omega) e2]; exact Nat.le_refl _
      · exact Nat.le_of_lt (h2 q (by omega) e.2)
    · exact h'.2.2.2.2 p q k1 k2 k3 e
theorem Wd.left {b C lo hi x y mid : Nat} {d : Nat → Nat} {w0 : World} {d' : Nat → Nat} {w' w'' : World} (h : Wd b C lo hi x y d w0 d' w') (hx : lo ≤ x) (hy : y ≤ hi) (hm1 : x ≤ mid) (hm2 : mid < y)
    (hL : ∀ t, x ≤ t → t < mid → d' t < d' mid) (hR : ∀ t, mid < t → t < y → d' mid ≤ d' t) (hl : Left b C x mid d' w' w'' (Asc x mid)) : ∃ d'', Wd b C lo hi (mid + 1) y d w0 d'' w'' := by
  obtain ⟨hb, d'', hr, hm, ha⟩ := hl
  have h' := h.step hx hy hb hr (hm.mono (Nat.le_refl _) (by omega))
  have eo : ∀ t, ¬ (x ≤ t ∧ t < mid) → d'' t = d' t := hm.1
  have el := hm.all (p := fun v => v < d' mid) hL
  refine ⟨d'', hr, h'.2.1, h'.2.2.1, Or.inr fun t k1 k2 => ?_, fun p q k1 k2 k3 k4 => ?_⟩
  · rw [show mid + 1 - 1 = mid by omega, eo mid (by omega), eo t (by omega)]; exact hR t (by omega) k2
  · by_cases e : x ≤ p ∧ q < y
    · by_cases e1 : p < mid
      · by_cases e2 : q < mid
        · exact ha p q e.1 k2 e2
        · have g1 := el p e.1 e1
          rw [eo q (by omega)]
          by_cases e3 : q = mid
          · rw [e3]; exact Nat.le_of_lt g1
          · exact Nat.le_trans (Nat.le_of_lt g1) (hR q (by omega) e.2)
      · rw [eo p (by omega), eo q (by omega), show p = mid by omega]
        exact hR q (by omega) e.2
    · exact h'.2.2.2.2 p q k1 k2 k3 e
theorem Wd.right {b C lo hi x y mid : Nat} {d : Nat → Nat} {w0 : World} {d' : Nat → Nat} {w' w'' : World} (h : Wd b C lo hi x y d w0 d' w') (hx : lo ≤ x) (hy : y ≤ hi) (hm1 : x ≤ mid) (hm2 : mid < y)
    (hL : ∀ t, x ≤ t → t < mid → d' t < d' mid) (hR : ∀ t, mid < t → t < y → d' mid ≤ d' t) (hl : Left b C (mid + 1) y d' w' w'' (Asc (mid + 1) y)) : ∃ d'', Wd b C lo hi x mid d w0 d'' w'' := by
  obtain ⟨hb, d'', hr, hm, ha⟩ := hl
  have h' := h.step hx hy hb hr (hm.mono (by omega) (Nat.le_refl _))
  have eo : ∀ t, ¬ (mid + 1 ≤ t ∧ t < y) → d'' t = d' t := hm.1
  have er := hm.all (p := fun v => d' mid ≤ v) (fun t k1 k2 => hR t (by omega) k2)
  refine ⟨d'', hr, h'.2.1, h'.2.2.1, ?_, fun p q k1 k2 k3 k4 => ?_⟩
  · rcases h'.2.2.2.1 with g | g
    · exact Or.inl g
    · exact Or.inr fun t k1 k2 => g t k1 (by omega)
  · by_cases e : x ≤ p ∧ q < y
    · by_cases e1 : q = mid
      · rw [e1, eo mid (by omega), eo p (by omega)]
        exact Nat.le_of_lt (hL p e.1 (by omega))
      · have g1 := er q (by omega) e.2
        by_cases e2 : mid < p
        · exact ha p q (by omega) k2 e.2
        · rw [eo p (by omega)]
          by_cases e3 : p = mid
          · rw [e3]; exact g1
          · exact Nat.le_trans (Nat.le_of_lt (hL p e.1 (by omega))) g1
    · exact h'.2.2.2.2 p q k1 k2 k3 e


set_option maxHeartbeats 2000000 in
theorem segEqual (b C n cap lo hi x y lim : Nat) (wb wp : Bool) (d : Nat → Nat) (w0 : World) (dk : Nat → Nat) (hx : lo ≤ x) (hxy : x ≤ y) (hy : y ≤ hi) (hhi : hi ≤ n) (hn : n ≤ C) (hC : n ≤ 1000000) (hlim : lim ≤ 64)
    (a : Act) (w : World) (hS : St (.slice (some ⟨b, 0, none⟩) n cap) x y lim wb wp a) (L pv : Nat) (h10 : slot a 10 = .int .i64 (L : Int)) (h11 : slot a 11 = .int .i64 (pv : Int)) (p1 : x ≤ pv) (p2 : pv < y) (hW : Wd b C lo hi x y d w0 dk w) (Q : Exit → Act → World → Prop)
    (hcont : Hid (∀ a' w' mid dk', St (.slice (some ⟨b, 0, none⟩) n cap) mid y lim wb wp a' → x < mid → mid ≤ y → Wd b C lo hi mid y d w0 dk' w' → Q (.exit 1) a' w'))
    (hnext : Hid (∀ a' w', St (.slice (some ⟨b, 0, none⟩) n cap) x y lim wb wp a' → slot a' 10 = .int .i64 (L : Int) → slot a' 11 = .int .i64 ((pv : Nat) : Int) → Wd b C lo hi x y d w0 dk w' → Q .normal a' w')) :
    Code.wp Yba.prog (seqPart 7 (loopOf Yba.f13)) Q a w := by
  obtain ⟨hF, h0, h1, h2, h3, h8, h9⟩ := hS
  obtain ⟨u, rfl, hu⟩ := to_lit134 hF
  have e0 := (hu 0 (by omega)).symm.trans h0
  have e1 := (hu 1 (by omega)).symm.trans h1
  have e2 := (hu 2 (by omega)).symm.trans h2
  have e3 := (hu 3 (by omega)).symm.trans h3
  have e8 := (hu 8 (by omega)).symm.trans h8
  have e9 := (hu 9 (by omega)).symm.trans h9
  have e10 := (hu 10 (by omega)).symm.trans h10
  clear h10
  have e11 := (hu 11 (by omega)).symm.trans h11
  clear h11
  clear hu h0 h1 h2 h3 h8 h9 hF
  conv => arg 2; whnf
  rw [e0, e1, e2, e3, e8, e9, e10, e11]
  clear e0 e1 e2 e3 e8 e9 e10 e11
  have hcp : w.cell? ⟨b, pv, none⟩ = some (.int .u32 (dk pv)) := hW.1.cell (by omega)
  have hcx : w.cell? ⟨b, x - 1, none⟩ = some (.int .u32 (dk (x - 1))) := hW.1.cell (by omega)
  have hpn : pv < n := by omega
  replace hW := hide hW
  by_cases hx0 : 0 < x
  · have hx0i : (0 : Int) < (x : Int) := by omega
    go_wp2
    go_quiet (first | (go_at_call 21; refine Calls.quiet_of_same (less _ _ _)))
    go_wp2_with fail
    · have hl : ¬ dk (x - 1) < dk pv := by simpa using ‹(!decide (dk (x - 1) < dk pv)) = true›
      have hmin : Hid (∀ t, x ≤ t → t < y → dk pv ≤ dk t) := by
        intro t k1 k2
        rcases hW.out.2.2.2.1 with g | g
        · omega
        · have := g t k1 k2; omega
      refine (partEq b C n cap x y pv dk (dk pv) _ (rowIs_drewN hW.out.1 _) p1 p2 (by omega) hn hC rfl hmin).mono ?_
      rintro e w' ⟨mid, rfl, m1, m2, hb', d', hr', hm', g1, g2⟩
      replace g1 := hide g1
      replace g2 := hide g2
      go_wp2
      exact hcont.out _ _ mid d' ⟨⟨rfl, rfl⟩, rfl, rfl, rfl, rfl, rfl, rfl⟩ m1 m2 (hW.out.eq hx hy m1 m2 ((Below_drewN (Below.refl _ _) _).trans hb') hr' hm' g1.out g2.out)
    · exact hnext.out _ _ ⟨⟨rfl, rfl⟩, rfl, rfl, rfl, rfl, rfl, rfl⟩ rfl rfl (hW.out.step hx hy (Below_drewN (Below.refl _ _) _) (rowIs_drewN hW.out.1 _) (Mi.refl _ _ _))
  · have hx0i : ¬ (0 : Int) < (x : Int) := by omega
    go_wp2
    go_quiet (first | (go_at_call 21; refine Calls.quiet_of_same (less _ _ _)))
    go_wp2_with fail
    exact hnext.out _ _ ⟨⟨rfl, rfl⟩, rfl, rfl, rfl, rfl, rfl, rfl⟩ rfl rfl (hW.out.step hx hy (Below_drewN (Below.refl _ _) _) (rowIs_drewN hW.out.1 _) (Mi.refl _ _ _))

set_option maxHeartbeats 4000000 in
theorem segCut (b C n cap lo hi x y lim : Nat) (wb wp : Bool) (d : Nat → Nat) (w0 : World) (dk : Nat → Nat) (hx : lo ≤ x) (hxy : x ≤ y) (hy : y ≤ hi) (hhi : hi ≤ n) (hn : n ≤ C) (hC : n ≤ 1000000) (hlim : lim ≤ 64)
    (a : Act) (w : World) (hS : St (.slice (some ⟨b, 0, none⟩) n cap) x y lim wb wp a) (L pv : Nat) (hLC : L ≤ 1000000) (h10 : slot a 10 = .int .i64 (L : Int)) (h11 : slot a 11 = .int .i64 (pv : Int)) (p1 : x ≤ pv) (p2 : pv < y) (hW : Wd b C lo hi x y d w0 dk w) (Q : Exit → Act → World → Prop)
    (IH : Hid (∀ lo' hi' d' w', hi' - lo' < hi - lo → w'.rowIs b 26 C (row d') → lo' ≤ hi' → hi' ≤ n → Blw lo' hi' d' → Calls Yba.prog 13 #[.slice (some ⟨b, 0, none⟩) n cap, .int .i64 (lo' : Nat), .int .i64 (hi' : Nat), .int .i64 lim] w' fun e w'' => e = .returned (.tuple #[]) ∧ Left b C lo' hi' d' w' w'' (Asc lo' hi')))
    (hnext : Hid (∀ a' w' x' y' wb' wp' dk', St (.slice (some ⟨b, 0, none⟩) n cap) x' y' lim wb' wp' a' → lo ≤ x' → x' ≤ y' → y' ≤ hi → y' - x' < y - x → Wd b C lo hi x' y' d w0 dk' w' → Q .normal a' w')) :
    Code.wp Yba.prog (seqRest 8 (loopOf Yba.f13)) Q a w := by
  obtain ⟨hF, h0, h1, h2, h3, h8, h9⟩ := hS
  obtain ⟨u, rfl, hu⟩ := to_lit134 hF
  have e0 := (hu 0 (by omega)).symm.trans h0
  have e1 := (hu 1 (by omega)).symm.trans h1
  have e2 := (hu 2 (by omega)).symm.trans h2
  have e3 := (hu 3 (by omega)).symm.trans h3
  have e8 := (hu 8 (by omega)).symm.trans h8
  have e9 := (hu 9 (by omega)).symm.trans h9
  have e10 := (hu 10 (by omega)).symm.trans h10
  clear h10
  have e11 := (hu 11 (by omega)).symm.trans h11
  clear h11
  clear hu h0 h1 h2 h3 h8 h9 hF
  conv => arg 2; whnf
  rw [e0, e1, e2, e3, e8, e9, e10, e11]
  clear e0 e1 e2 e3 e8 e9 e10 e11
  replace hW := hide hW
  go_wp2_with fail
  refine (part b C n cap x y pv dk _ hW.out.1 p1 p2 (by omega) hn hC).mono ?_
  rintro e w' ⟨mid, ap, rfl, m1, m2, hb', d', hr', hm', g1, g2⟩
  have hW' := hide (hW.out.step hx hy hb' hr' hm')
  replace g1 := hide g1
  replace g2 := hide g2
  clear hb' hr' hm' hW
  go_wp2_with fail
  · refine (IH.out x mid d' w' (by omega) hW'.out.1 m1 (by omega) ?_).mono ?_
    · rcases hW'.out.2.2.2.1 with g | g
      · exact Or.inl g
      · exact Or.inr fun t k1 k2 => g t k1 (by omega)
    · rintro e w'' ⟨rfl, hl⟩
      obtain ⟨d'', hW''⟩ := hW'.out.left hx hy m1 m2 g1.out g2.out hl
      replace hW'' := hide hW''
      clear hl
      go_wp2
      rw [show ((mid : Int) + 1) = ((mid + 1 : Nat) : Int) by omega]
      exact hnext.out _ _ (mid + 1) y _ _ d'' ⟨⟨rfl, rfl⟩, rfl, rfl, rfl, rfl, rfl, rfl⟩ (by omega) (by omega) hy (by omega) hW''.out
  · rw [show ((mid : Int) + 1) = ((mid + 1 : Nat) : Int) by omega]
    refine (IH.out (mid + 1) y d' w' (by omega) hW'.out.1 (by omega) (by omega) (Or.inr fun t k1 k2 => by rw [show mid + 1 - 1 = mid by omega]; exact g2.out t (by omega) k2)).mono ?_
    rintro e w'' ⟨rfl, hl⟩
    obtain ⟨d'', hW''⟩ := hW'.out.right hx hy m1 m2 g1.out g2.out hl
    replace hW'' := hide hW''
    clear hl
    go_wp2
    exact hnext.out _ _ x mid _ _ d'' ⟨⟨rfl, rfl⟩, rfl, rfl, rfl, rfl, rfl, rfl⟩ hx m1 (by omega) (by omega) hW''.out

theorem segHead (s : Value) (x y lim : Nat) (a : Act) (w : World) (hF : Fr 134 a) (h0 : slot a 0 = s) (h1 : slot a 1 = .int .i64 (x : Int)) (h2 : slot a 2 = .int .i64 (y : Int)) (h3 : slot a 3 = .int .i64 (lim : Int)) (c : Code) (Q : Exit → Act → World → Prop)
    (hnext : Hid (∀ a', St s x y lim true true a' → c.wp Yba.prog Q a' w)) :
    Code.wp Yba.prog (Code.seq (seqPart 0 (bodyOf Yba.f13)) (Code.seq (seqPart 1 (bodyOf Yba.f13)) c)) Q a w := by
  obtain ⟨u, rfl, hu⟩ := to_lit134 hF
  have e0 := (hu 0 (by omega)).symm.trans h0
  have e1 := (hu 1 (by omega)).symm.trans h1
  have e2 := (hu 2 (by omega)).symm.trans h2
  have e3 := (hu 3 (by omega)).symm.trans h3
  clear hu h0 h1 h2 h3 hF
  conv => arg 2; arg 1; whnf
  conv => arg 2; arg 2; arg 1; whnf
  rw [e0, e1, e2, e3]
  clear e0 e1 e2 e3
  go_wp2
  exact hnext.out _ ⟨⟨rfl, rfl⟩, rfl, rfl, rfl, rfl, rfl, rfl⟩

theorem body13 : bodyOf Yba.f13 = Code.seq (seqPart 0 (bodyOf Yba.f13)) (Code.seq (seqPart 1 (bodyOf Yba.f13)) (Code.block 0 (Code.loop (Code.block 1 (loopOf Yba.f13))))) := by kernel_rfl
theorem loopOf_is : (loopOf Yba.f13) = Code.seq (seqPart 0 (loopOf Yba.f13)) (Code.seq (seqPart 1 (loopOf Yba.f13)) (Code.seq (seqPart 2 (loopOf Yba.f13)) (Code.seq (seqPart 3 (loopOf Yba.f13)) (Code.seq (seqPart 4 (loopOf Yba.f13)) (Code.seq (seqPart 5 (loopOf Yba.f13)) (Code.seq (seqPart 6 (loopOf Yba.f13)) (Code.seq (seqPart 7 (loopOf Yba.f13)) (seqRest 8 (loopOf Yba.f13))))))))) := by kernel_rfl

/-- pdqsortOrdered: ascending behind. -/
theorem pdq (b C n cap : Nat) (hn : n ≤ C) (hC : n ≤ 1000000) : ∀ k, ∀ (lo hi lim : Nat) (d : Nat → Nat) (w : World), hi - lo ≤ k → w.rowIs b 26 C (row d) → lo ≤ hi → hi ≤ n → lim ≤ 64 → Blw lo hi d →
    Calls Yba.prog 13 #[.slice (some ⟨b, 0, none⟩) n cap, .int .i64 lo, .int .i64 hi, .int .i64 lim] w fun e w' => e = .returned (.tuple #[]) ∧ Left b C lo hi d w w' (Asc lo hi) := by
  intro k
  induction k using Nat.strongRecOn with
  | _ k ih =>
  intro lo hi lim d w hk hr hlo hhi hlim hbl
  refine calls_of_wp Yba.func13 rfl ?_
  show Code.wp Yba.prog (bodyOf Yba.f13) _ _ _
  have hF0 : Fr 134 { tmps := #[.slice (some ⟨b, 0, none⟩) n cap, .int .i64 lo, .int .i64 hi, .int .i64 lim] ++ Array.replicate (Yba.f13.ntmps - (#[.slice (some ⟨b, 0, none⟩) n cap, .int .i64 (lo : Int), .int .i64 (hi : Int), .int .i64 (lim : Int)] : Array Value).size) undef, defers := [] } := ⟨by kernel_rfl, rfl⟩
  generalize hA : ({ tmps := #[.slice (some ⟨b, 0, none⟩) n cap, .int .i64 lo, .int .i64 hi, .int .i64 lim] ++ Array.replicate (Yba.f13.ntmps - (#[.slice (some ⟨b, 0, none⟩) n cap, .int .i64 (lo : Int), .int .i64 (hi : Int), .int .i64 (lim : Int)] : Array Value).size) undef, defers := [] } : Act) = A at hF0 ⊢
  have t0 : slot A 0 = .slice (some ⟨b, 0, none⟩) n cap := by rw [← hA]; kernel_rfl
  have t1 : slot A 1 = .int .i64 lo := by rw [← hA]; kernel_rfl
  have t2 : slot A 2 = .int .i64 hi := by rw [← hA]; kernel_rfl
  have t3 : slot A 3 = .int .i64 lim := by rw [← hA]; kernel_rfl
  clear hA
  rw [body13]
  refine segHead _ lo hi lim A w hF0 t0 t1 t2 t3 _ _ (hide ?_)
  intro A1 hS1
  refine wp_block ?_
  refine loop_rule (fun m a w' => ∃ x y lim wb wp dk, m = y - x ∧ St (.slice (some ⟨b, 0, none⟩) n cap) x y lim wb wp a ∧ lo ≤ x ∧ x ≤ y ∧ y ≤ hi ∧ lim ≤ 64 ∧ Wd b C lo hi x y d w dk w')
    (hi - lo) ⟨lo, hi, lim, true, true, d, rfl, hS1, Nat.le_refl _, hlo, Nat.le_refl _, hlim, hr, Below.refl _ _, Mi.refl _ _ _, hbl, fun p q h1 h2 h3 h4 => absurd ⟨h1, h3⟩ h4⟩ ?_
  rintro m a w1 ⟨x, y, lim, wb, wp, dk, rfl, hS, hx, hxy, hy, hlim, hW⟩ R hR hexit
  have hret : Hid (∀ a' w', Fr 134 a' → Left b C lo hi d w w' (Asc lo hi) → Exit.inBlock 1 R .ret a' w') := fun a' w' hF hl =>
    hexit.out .ret a' w' (by intro h; cases h) (show bodyPost Yba.prog Yba.f13 (fun e w' => e = .returned (.tuple #[]) ∧ Left b C lo hi d w w' (Asc lo hi)) .ret a' w' from bodyPost_ret (results_none (by kernel_rfl) _ _ _) hF.2 ⟨rfl, hl⟩)
  refine wp_block ?_
  rw [loopOf_is]
  refine wp_seq (segLen b C n cap lo hi x y lim wb wp d w dk hx hxy hy hhi hn hC hlim a w1 hS _ (hide ?_))
  intro a2 hS2 h10
  refine wp_seq (segSmall b C n cap lo hi x y lim wb wp d w dk hx hxy hy hhi hn hC hlim a2 w1 hS2 h10 hW _ hret (hide ?_))
  intro a3 hS3 h10 h12
  refine wp_seq (segLimit b C n cap lo hi x y lim wb wp d w dk hx hxy hy hhi hn hC hlim a3 w1 hS3 (y - x) h10 h12 hW _ hret (hide ?_))
  intro a4 hS4 h10 hl0
  refine wp_seq (segBreak b C n cap lo hi x y lim wb wp d w dk hx hxy hy hhi hn hC hlim a4 w1 hS4 (y - x) h10 h12 hl0 hW _ (hide ?_))
  intro a5 w5 lim5 d5 hS5 h10 hlim5 hW5
  refine wp_seq (segPivot b C n cap lo hi x y lim5 wb wp d w d5 hx hxy hy hhi hn hC hlim5 a5 w5 hS5 (y - x) h10 h12 hW5 _ (hide ?_))
  intro a6 w6 pv6 hint6 hS6 h10 h11 hh12 p1 p2 hW6
  refine wp_seq (segTurn b C n cap lo hi x y lim5 wb wp d w d5 hx hxy hy hhi hn hC hlim5 a6 w6 hS6 (y - x) pv6 hint6 h10 h11 hh12 p1 p2 hW6 _ (hide ?_))
  intro a7 w7 pv hint d7 hS7 h10 h11 hh12 p1 p2 hW7
  refine wp_seq (segPartial b C n cap lo hi x y lim5 wb wp d w d7 hx hxy hy hhi hn hC hlim5 a7 w7 hS7 (y - x) pv hint h10 h11 hh12 p1 p2 hW7 _ hret (hide ?_))
  intro a8 w8 d8 hS8 h10 h11 hW8
  refine wp_seq (segEqual b C n cap lo hi x y lim5 wb wp d w d8 hx hxy hy hhi hn hC hlim5 a8 w8 hS8 (y - x) pv h10 h11 p1 p2 hW8 _ (hide ?_) (hide ?_))
  · intro a9 w9 mid d9 hS9 m1 m2 hW9
    show Exit.inBlock 1 R (.exit 1) a9 w9
    exact hR.out (y - mid) a9 w9 (by omega) ⟨mid, y, lim5, wb, wp, d9, rfl, hS9, by omega, m2, hy, hlim5, hW9⟩
  · intro a9 w9 hS9 h10 h11 hW9
    refine segCut b C n cap lo hi x y lim5 wb wp d w d8 hx hxy hy hhi hn hC hlim5 a9 w9 hS9 (y - x) pv (by omega) h10 h11 p1 p2 hW9 _ (hide ?_) (hide ?_)
    · intro lo' hi' d' w' g1 g2 g3 g4 g5
      exact ih (hi' - lo') (by omega) lo' hi' lim5 d' w' (Nat.le_refl _) g2 g3 g4 hlim5 g5
    · intro a10 w10 x' y' wb' wp' d10 hS10 q1 q2 q3 q4 hW10
      exact hR.out (y' - x') a10 w10 q4 ⟨x', y', lim5, wb', wp', d10, rfl, hS10, q1, q2, q3, hlim5, hW10⟩

theorem bitLen_le (x : Nat) (h : x ≤ 1000000) : Lib.bitLen x ≤ 64 := by
  have e := bitLen_eq x (by omega)
  rw [e]
  exact (Sort.bitsLen_le_iff x 64).2 (by omega)

/-- slices.Sort at ID. -/
theorem sort (b C n cap : Nat) (d : Nat → Nat) (w : World) (hr : w.rowIs b 26 C (row d)) (hn : n ≤ C) (hC : n ≤ 1000000) :
    Calls Yba.prog 9 #[.slice (some ⟨b, 0, none⟩) n cap] w fun e w' => e = .returned (.tuple #[]) ∧ Left b C 0 n d w w' (Asc 0 n) := by
  go_enter Yba.func9, Yba.ntmps9
  go_wp2_with fail
  refine (bitsLen n w (by omega)).mono ?_
  rintro e w1 ⟨rfl, rfl⟩
  have hl := bitLen_le n (by omega)
  generalize Lib.bitLen n = lim at hl ⊢
  go_wp2_with fail
  refine (show Calls Yba.prog 13 #[.slice (some ⟨b, 0, none⟩) n cap, .int .i64 0, .int .i64 n, .int .i64 lim] _ _ from pdq b C n cap hn hC n 0 n lim d w1 (by omega) hr (by omega) (Nat.le_refl _) hl (Or.inl rfl)).mono ?_
  rintro e w2 ⟨rfl, hL⟩
  go_wp2
  go_end0
  exact ⟨rfl, hL⟩
end Go.Proofs.Ybulkdfzs.S
