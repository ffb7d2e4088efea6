/-
  reverseRangeOrdered, siftDownOrdered, heapSortOrdered at ID, walked. Own text.
-/
import Derived.Test.YbulkdfzsSa
namespace Go.Proofs.Ybulkdfzs.S
open Go.RowKit Go.Proofs.Ybulkdfzs.AR
set_option linter.unusedVariables false
set_option linter.unusedSimpArgs false
set_option maxRecDepth 100000

theorem reverse (b C n cap lo hi : Nat) (d : Nat → Nat) (w : World) (hr : w.rowIs b 26 C (row d)) (hlo : lo < hi) (hhi : hi ≤ n) (hn : n ≤ C) (hC : n ≤ 1000000) :
    Calls Yba.prog 19 #[.slice (some ⟨b, 0, none⟩) n cap, .int .i64 lo, .int .i64 hi] w fun e w' => e = .returned (.tuple #[]) ∧ Left b C lo hi d w w' (fun _ => True) := by
  go_enter Yba.func19, Yba.ntmps19
  go_wp2
  go_loopw [6, 7] (fun vi vj wr => ∃ (i j : Nat) (dk : Nat → Nat), vi = .int .i64 i ∧ vj = .int .i64 j ∧ lo ≤ i ∧ i ≤ j + 1 ∧ j < hi ∧ wr.rowIs b 26 C (row dk) ∧ Below b w wr ∧ Mi lo hi d dk) (fun vi vj _ => nat vj + 1 - nat vi)
  case atStart => exact ⟨lo, hi - 1, d, by go_num, by congr 1; omega, by omega, by omega, by omega, hr, Below.refl _ _, Mi.refl _ _ _⟩
  case round =>
    obtain ⟨i, j, dk, rfl, rfl, h1, h2, h3, hrk, hbk, hmk⟩ := hrel
    have hc : wr.cell? ⟨b, j, none⟩ = some (.int .u32 (dk j)) := hrk.cell (by omega)
    have hc1 : i ≤ j → wr.cell? ⟨b, i, none⟩ = some (.int .u32 (dk i)) := fun _ => hrk.cell (by omega)
    have hf : ∀ t, wr.frozen? ⟨b, t, none⟩ = false := fun t => hrk.frozen t
    replace hrk := hide hrk
    go_wp2
    · have hij : i < j := by assumption
      replace hc1 := hc1 (by omega)
      have hi1 : i < n := by omega
      have hj1 : j < n := by omega
      go_region
      all_goals go_wp2
      go_roundw
      case rel =>
        exact ⟨i + 1, j - 1, sw dk i j, by go_num, by congr 1; omega, by omega, by omega, by omega, row_sw (rowIs_drewN hrk.out _) i j, below_sw (Below_drewN hbk _) (Nat.le_refl _) _ _ _ _, hmk.trans (Mi.sw _ (by omega) (by omega) (by omega) (by omega))⟩
      case measure => simp [nat]; omega
    · go_end0
      exact ⟨rfl, hbk, dk, hrk.out, hmk, trivial⟩

theorem wr64 {x : Int} (h0 : -4611686018427387904 ≤ x) (h1 : x ≤ 4611686018427387904) : IntKind.i64.wrap x = x := by rw [IntKind.wrap_i64]; omega
/-- Child c of p. -/
def Ch (p c : Nat) : Prop := c = 2 * p + 1 ∨ c = 2 * p + 2
/-- The heap's order from parent lo on, below hi, at 'first'. -/
def Heap (f lo hi : Nat) (d : Nat → Nat) : Prop := ∀ p c, lo ≤ p → c < hi → Ch p c → d (f + c) ≤ d (f + p)

theorem sift_A {f lo hi r c : Nat} {dk : Nat → Nat} (h1 : lo ≤ r) (m2 : Ch r c) (m1 : c < hi) (hlt : dk (f + r) < dk (f + c)) (m3 : ∀ c', c' < hi → Ch r c' → dk (f + c') ≤ dk (f + c))
    (hA : ∀ p c, lo ≤ p → c < hi → Ch p c → p ≠ r → dk (f + c) ≤ dk (f + p)) (hB : ∀ c g, c < hi → Ch r c → lo ≤ g → Ch g r → dk (f + c) ≤ dk (f + g)) :
    ∀ p q, lo ≤ p → q < hi → Ch p q → p ≠ c → sw dk (f + r) (f + c) (f + q) ≤ sw dk (f + r) (f + c) (f + p) := by
  intro p q k1 k2 k3 k4
  have g1 := hA p q k1 k2 k3
  have g2 := m3 q k2
  have g3 := hB c p m1 m2 k1
  unfold sw
  rw [if_neg (by omega : ¬ f + p = f + c)]
  by_cases e1 : p = r
  · rw [if_pos (by omega : f + p = f + r)]
    by_cases e2 : q = c
    · rw [if_pos (by omega)]; omega
    · rw [if_neg (by omega), if_neg (by unfold Ch at *; omega)]
      subst e1
      exact g2 k3
  · rw [if_neg (by omega : ¬ f + p = f + r)]
    by_cases e2 : q = c
    · exfalso; unfold Ch at *; omega
    · rw [if_neg (by omega)]
      by_cases e3 : q = r
      · subst e3
        rw [if_pos rfl]
        exact g3 k3
      · rw [if_neg (by omega)]
        exact g1 e1
theorem sift_B {f lo hi r c : Nat} {dk : Nat → Nat} (h1 : lo ≤ r) (m2 : Ch r c) (m1 : c < hi) (hlt : dk (f + r) < dk (f + c))
    (hA : ∀ p c, lo ≤ p → c < hi → Ch p c → p ≠ r → dk (f + c) ≤ dk (f + p)) :
    ∀ q g, q < hi → Ch c q → lo ≤ g → Ch g c → sw dk (f + r) (f + c) (f + q) ≤ sw dk (f + r) (f + c) (f + g) := by
  intro q g k1 k2 k3 k4
  have hg : g = r := by unfold Ch at *; omega
  subst hg
  have g1 := hA c q (by unfold Ch at *; omega) k1 k2 (by unfold Ch at *; omega)
  unfold sw
  rw [if_neg (by unfold Ch at *; omega : ¬ f + q = f + c), if_neg (by unfold Ch at *; omega : ¬ f + q = f + g), if_neg (by unfold Ch at *; omega : ¬ f + g = f + c), if_pos rfl]
  exact g1

set_option maxHeartbeats 2000000 in
theorem siftDown (b C n cap lo hi f : Nat) (d : Nat → Nat) (w : World) (hr : w.rowIs b 26 C (row d)) (hhi : f + hi ≤ n) (hlo : lo < hi ∨ (lo = 0 ∧ hi = 0)) (hn : n ≤ C) (hC : n ≤ 1000000) (hh : Heap f (lo + 1) hi d) :
    Calls Yba.prog 26 #[.slice (some ⟨b, 0, none⟩) n cap, .int .i64 lo, .int .i64 hi, .int .i64 f] w fun e w' => e = .returned (.tuple #[]) ∧ Left b C f (f + hi) d w w' (Heap f lo hi) := by
  go_enter Yba.func26, Yba.ntmps26
  go_wp2
  go_loopw [8] (fun vr wr => ∃ (r : Nat) (dk : Nat → Nat), vr = .int .i64 r ∧ lo ≤ r ∧ (r < hi ∨ (r = lo ∧ hi = 0)) ∧ wr.rowIs b 26 C (row dk) ∧ Below b w wr ∧ Mi f (f + hi) d dk ∧
     (∀ p c, lo ≤ p → c < hi → Ch p c → p ≠ r → dk (f + c) ≤ dk (f + p)) ∧ (∀ c g, c < hi → Ch r c → lo ≤ g → Ch g r → dk (f + c) ≤ dk (f + g))) (fun vr _ => hi - nat vr)
  case atStart => exact ⟨lo, d, rfl, by omega, by omega, hr, Below.refl _ _, Mi.refl _ _ _, fun p c h1 h2 h3 h4 => hh p c (by omega) h2 h3, fun c g h1 h2 h3 h4 => by unfold Ch at h4; omega⟩
  case round =>
    obtain ⟨r, dk, rfl, h1, h2, hrk, hbk, hmk, hA, hB⟩ := hrel
    replace hA := hide hA
    replace hB := hide hB
    have hc : ∀ t, f + t < C → wr.cell? ⟨b, f + t, none⟩ = some (.int .u32 (dk (f + t))) := fun t ht => hrk.cell ht
    have hf : ∀ t, wr.frozen? ⟨b, t, none⟩ = false := fun t => hrk.frozen t
    replace hrk := hide hrk
    have hrC : r ≤ 1000000 := by omega
    have e1 : ((2 * r + 1 : Nat) : Int) = 2 * (r : Int) + 1 := by omega
    go_wp2
    · have hge : hi ≤ 2 * r + 1 := by omega
      go_end0
      exact ⟨rfl, hbk, dk, hrk.out, hmk, fun p c k1 k2 k3 => by
        by_cases e : p = r
        · unfold Ch at k3; omega
        · exact hA.out p c k1 k2 k3 e⟩
    · obtain ⟨k, hk⟩ : ∃ k, 2 * r + 1 = k := ⟨_, rfl⟩
      rw [← e1, hk]
      have hkh : k < hi := by omega
      have hck : wr.cell? ⟨b, f + k, none⟩ = some (.int .u32 (dk (f + k))) := hc k (by omega)
      have hcr : wr.cell? ⟨b, f + r, none⟩ = some (.int .u32 (dk (f + r))) := hc r (by omega)
      have hkC : k < 1000000 := by omega
      have hfC : f ≤ 1000000 := by omega
      have hfk : f + k < n := by omega
      have hfr : f + r < n := by omega
      clear e1
      replace hk := hide hk
      replace h2 := hide h2
      replace hlo := hide hlo
      by_cases hk1 : k + 1 < hi
      · have hfk1 : f + k + 1 < n := by omega
        have hk1i : (k : Int) + 1 < hi := by omega
        have hck1 : wr.cell? ⟨b, f + k + 1, none⟩ = some (.int .u32 (dk (f + k + 1))) := hc (k + 1) (by omega)
        go_quiet (first | (go_at_call 21; refine Calls.quiet_of_same (less _ _ _)))
        go_wp2
        · have hl : dk (f + k) < dk (f + k + 1) := by assumption
          obtain ⟨c, hcd⟩ : ∃ c, k + 1 = c := ⟨_, rfl⟩
          rw [show ((k : Int) + 1) = ((c : Nat) : Int) by omega]
          have hcc : wr.cell? ⟨b, f + c, none⟩ = some (.int .u32 (dk (f + c))) := hc c (by omega)
          have hfc : f + c < n := by omega
          have hmax : Hid (c < hi ∧ Ch r c ∧ ∀ c', c' < hi → Ch r c' → dk (f + c') ≤ dk (f + c)) := ⟨by omega, Or.inr (by have := hk.out; omega), fun c' h3 h4 => by
            have h5 := hk.out
            rcases h4 with h4 | h4
            · rw [show f + c' = f + k by omega, show f + c = f + k + 1 by omega]; omega
            · rw [show f + c' = f + c by omega]; exact Nat.le_refl _⟩
          clear hk1i hcd hk1 hck1 hfk1 hl hcc
          replace hk := hide trivial
          obtain ⟨w2, hw2⟩ : ∃ w2, wr.drewN nq = w2 := ⟨_, rfl⟩
          rw [hw2]
          have hrk2 : Hid (w2.rowIs b 26 C (row dk)) := hw2 ▸ rowIs_drewN hrk.out nq
          have hbk2 : Below b w w2 := hw2 ▸ Below_drewN hbk nq
          have hcr2 : w2.cell? ⟨b, f + r, none⟩ = some (.int .u32 (dk (f + r))) := hrk2.out.cell (by omega)
          have hcc2 : w2.cell? ⟨b, f + c, none⟩ = some (.int .u32 (dk (f + c))) := hrk2.out.cell (by omega)
          have hf2 : ∀ t, w2.frozen? ⟨b, t, none⟩ = false := fun t => hrk2.out.frozen t
          clear hw2 hrk hbk hc hcr hck hf
          go_quiet (first | (go_at_call 21; refine Calls.quiet_of_same (less _ _ _)))
          go_wp2
          · have hge : ¬ dk (f + r) < dk (f + c) := by simpa using ‹(!decide (dk (f + r) < dk (f + c))) = true›
            refine bodyPost_ret (results_none rfl _ _ _) rfl ?_
            exact ⟨rfl, Below_drewN hbk2 _, dk, rowIs_drewN hrk2.out _, hmk, fun p c' k1 k2 k3 => by
              by_cases e : p = r
              · subst e
                have := hmax.out.2.2 c' k2 k3
                omega
              · exact hA.out p c' k1 k2 k3 e⟩
          · have hlt : dk (f + r) < dk (f + c) := by
              first
                | simpa using ‹(!decide (dk (f + r) < dk (f + c))) = false›
                | simpa using ‹¬ (!decide (dk (f + r) < dk (f + c))) = true›
            have hrc : r < c := by have m2 := hmax.out.2.1; unfold Ch at m2; omega
            go_region
            all_goals go_wp2
            go_roundw
            case rel =>
              obtain ⟨m1, m2, m3⟩ := hmax.out
              refine ⟨c, sw dk (f + r) (f + c), by go_num, by unfold Ch at m2; omega, Or.inl m1, row_sw (rowIs_drewN hrk2.out _) (f + r) (f + c), below_sw (Below_drewN hbk2 _) (Nat.le_refl _) _ _ _ _, hmk.trans (Mi.sw _ (by omega) (by omega) (by omega) (by omega)), ?_, ?_⟩
              · exact sift_A h1 m2 m1 hlt m3 hA.out hB.out
              · exact sift_B h1 m2 m1 hlt hA.out
            case measure =>
              obtain ⟨m1, m2, m3⟩ := hmax.out
              unfold Ch at m2
              simp [nat]; omega
        · have hl : ¬ dk (f + k) < dk (f + k + 1) := by assumption
          have hmax : Hid (k < hi ∧ Ch r k ∧ ∀ c', c' < hi → Ch r c' → dk (f + c') ≤ dk (f + k)) := ⟨by omega, Or.inl (by have := hk.out; omega), fun c' h3 h4 => by
            have h5 := hk.out
            rcases h4 with h4 | h4
            · rw [show f + c' = f + k by omega]; exact Nat.le_refl _
            · rw [show f + c' = f + k + 1 by omega]; omega⟩
          clear hk1i hk1 hck1 hfk1 hl
          replace hk := hide trivial
          obtain ⟨w2, hw2⟩ : ∃ w2, wr.drewN nq = w2 := ⟨_, rfl⟩
          rw [hw2]
          have hrk2 : Hid (w2.rowIs b 26 C (row dk)) := hw2 ▸ rowIs_drewN hrk.out nq
          have hbk2 : Below b w w2 := hw2 ▸ Below_drewN hbk nq
          have hcr2 : w2.cell? ⟨b, f + r, none⟩ = some (.int .u32 (dk (f + r))) := hrk2.out.cell (by omega)
          have hcc2 : w2.cell? ⟨b, f + k, none⟩ = some (.int .u32 (dk (f + k))) := hrk2.out.cell (by omega)
          have hf2 : ∀ t, w2.frozen? ⟨b, t, none⟩ = false := fun t => hrk2.out.frozen t
          clear hw2 hrk hbk hc hcr hck hf
          go_quiet (first | (go_at_call 21; refine Calls.quiet_of_same (less _ _ _)))
          go_wp2
          · have hge : ¬ dk (f + r) < dk (f + k) := by simpa using ‹(!decide (dk (f + r) < dk (f + k))) = true›
            refine bodyPost_ret (results_none rfl _ _ _) rfl ?_
            exact ⟨rfl, Below_drewN hbk2 _, dk, rowIs_drewN hrk2.out _, hmk, fun p c' k1 k2 k3 => by
              by_cases e : p = r
              · subst e
                have := hmax.out.2.2 c' k2 k3
                omega
              · exact hA.out p c' k1 k2 k3 e⟩
          · have hlt : dk (f + r) < dk (f + k) := by
              first
                | simpa using ‹(!decide (dk (f + r) < dk (f + k))) = false›
                | simpa using ‹¬ (!decide (dk (f + r) < dk (f + k))) = true›
            have hrc : r < k := by have m2 := hmax.out.2.1; unfold Ch at m2; omega
            go_region
            all_goals go_wp2
            go_roundw
            case rel =>
              obtain ⟨m1, m2, m3⟩ := hmax.out
              refine ⟨k, sw dk (f + r) (f + k), by go_num, by unfold Ch at m2; omega, Or.inl m1, row_sw (rowIs_drewN hrk2.out _) (f + r) (f + k), below_sw (Below_drewN hbk2 _) (Nat.le_refl _) _ _ _ _, hmk.trans (Mi.sw _ (by omega) (by omega) (by omega) (by omega)), ?_, ?_⟩
              · exact sift_A h1 m2 m1 hlt m3 hA.out hB.out
              · exact sift_B h1 m2 m1 hlt hA.out
            case measure =>
              obtain ⟨m1, m2, m3⟩ := hmax.out
              unfold Ch at m2
              simp [nat]; omega
      · have hk1i : ¬ (k : Int) + 1 < hi := by omega
        have hmax : Hid (k < hi ∧ Ch r k ∧ ∀ c', c' < hi → Ch r c' → dk (f + c') ≤ dk (f + k)) := ⟨by omega, Or.inl (by have := hk.out; omega), fun c' h3 h4 => by
          have h5 := hk.out
          rcases h4 with h4 | h4
          · rw [show f + c' = f + k by omega]; exact Nat.le_refl _
          · exfalso; omega⟩
        go_quiet (first | (go_at_call 21; refine Calls.quiet_of_same (less _ _ _)))
        go_wp2
        clear hk1i hk1
        replace hk := hide trivial
        obtain ⟨w2, hw2⟩ : ∃ w2, wr.drewN nq = w2 := ⟨_, rfl⟩
        rw [hw2]
        have hrk2 : Hid (w2.rowIs b 26 C (row dk)) := hw2 ▸ rowIs_drewN hrk.out nq
        have hbk2 : Below b w w2 := hw2 ▸ Below_drewN hbk nq
        have hcr2 : w2.cell? ⟨b, f + r, none⟩ = some (.int .u32 (dk (f + r))) := hrk2.out.cell (by omega)
        have hcc2 : w2.cell? ⟨b, f + k, none⟩ = some (.int .u32 (dk (f + k))) := hrk2.out.cell (by omega)
        have hf2 : ∀ t, w2.frozen? ⟨b, t, none⟩ = false := fun t => hrk2.out.frozen t
        clear hw2 hrk hbk hc hcr hck hf
        go_quiet (first | (go_at_call 21; refine Calls.quiet_of_same (less _ _ _)))
        go_wp2
        · have hge : ¬ dk (f + r) < dk (f + k) := by simpa using ‹(!decide (dk (f + r) < dk (f + k))) = true›
          refine bodyPost_ret (results_none rfl _ _ _) rfl ?_
          exact ⟨rfl, Below_drewN hbk2 _, dk, rowIs_drewN hrk2.out _, hmk, fun p c' k1 k2 k3 => by
            by_cases e : p = r
            · subst e
              have := hmax.out.2.2 c' k2 k3
              omega
            · exact hA.out p c' k1 k2 k3 e⟩
        · have hlt : dk (f + r) < dk (f + k) := by
            first
              | simpa using ‹(!decide (dk (f + r) < dk (f + k))) = false›
              | simpa using ‹¬ (!decide (dk (f + r) < dk (f + k))) = true›
          have hrc : r < k := by have m2 := hmax.out.2.1; unfold Ch at m2; omega
          go_region
          all_goals go_wp2
          go_roundw
          case rel =>
            obtain ⟨m1, m2, m3⟩ := hmax.out
            refine ⟨k, sw dk (f + r) (f + k), by go_num, by unfold Ch at m2; omega, Or.inl m1, row_sw (rowIs_drewN hrk2.out _) (f + r) (f + k), below_sw (Below_drewN hbk2 _) (Nat.le_refl _) _ _ _ _, hmk.trans (Mi.sw _ (by omega) (by omega) (by omega) (by omega)), ?_, ?_⟩
            · exact sift_A h1 m2 m1 hlt m3 hA.out hB.out
            · exact sift_B h1 m2 m1 hlt hA.out
          case measure =>
            obtain ⟨m1, m2, m3⟩ := hmax.out
            unfold Ch at m2
            simp [nat]; omega

end Go.Proofs.Ybulkdfzs.S
