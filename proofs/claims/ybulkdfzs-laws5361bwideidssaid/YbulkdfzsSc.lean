/-
  heapSortOrdered at ID, walked. Own text.
-/
import Derived.Test.YbulkdfzsSb
namespace Go.Proofs.Ybulkdfzs.S
open Go.RowKit Go.Proofs.Ybulkdfzs.AR
set_option linter.unusedVariables false
set_option linter.unusedSimpArgs false
set_option maxRecDepth 100000

def nat1 : Value → Nat | .int _ q => (q + 1).toNat | _ => 0
/-- The root is the greatest. -/
theorem heap_top {f hi : Nat} {d : Nat → Nat} (h : Heap f 0 hi d) : ∀ t, t < hi → d (f + t) ≤ d (f + 0) := by
  intro t
  induction t using Nat.strongRecOn with
  | _ t ih =>
    intro ht
    by_cases e : t = 0
    · subst e; exact Nat.le_refl _
    · have h1 := ih ((t - 1) / 2) (by omega) (by omega)
      have h2 := h ((t - 1) / 2) t (by omega) ht (by unfold Ch; omega)
      omega

theorem siftDown0 (b C n cap hi f : Nat) (d : Nat → Nat) (w : World) (hr : w.rowIs b 26 C (row d)) (hhi : f + hi ≤ n) (hn : n ≤ C) (hC : n ≤ 1000000) (hh : Heap f (0 + 1) hi d) :
    Calls Yba.prog 26 #[.slice (some ⟨b, 0, none⟩) n cap, .int .i64 0, .int .i64 hi, .int .i64 f] w fun e w' => e = .returned (.tuple #[]) ∧ Left b C f (f + hi) d w w' (Heap f 0 hi) :=
  siftDown b C n cap 0 hi f d w hr hhi (by omega) hn hC hh
theorem heap_sw {f j : Nat} {d : Nat → Nat} (h : Heap f 0 (j + 1) d) : Heap f (0 + 1) j (sw d f (f + j)) := by
  intro p c h1 h2 h3
  have g := h p c (by omega) (by omega) h3
  unfold Ch at h3
  unfold sw
  rw [if_neg (by omega), if_neg (by omega), if_neg (by omega), if_neg (by omega)]
  exact g
theorem heap_tail {f j m : Nat} {d d' : Nat → Nat} (h : Heap f 0 (j + 1) d) (hT : ∀ p q, p < q → j + 1 ≤ q → q < m → d (f + p) ≤ d (f + q)) (hm : Mi f (f + j) (sw d f (f + j)) d') :
    ∀ p q, p < q → j ≤ q → q < m → d' (f + p) ≤ d' (f + q) := by
  intro p q h1 h2 h3
  have eq : d' (f + q) = sw d f (f + j) (f + q) := hm.1 _ (by omega)
  have top := heap_top h
  -- whatever lies at p lay at some s
  obtain ⟨s, hs, es⟩ : ∃ s, (if p < j then s < j else s = p) ∧ d' (f + p) = sw d f (f + j) (f + s) := by
    by_cases hp : p < j
    · obtain ⟨s, s1, s2, e⟩ := hm.2 (f + p) (by omega) (by omega)
      exact ⟨s - f, by rw [if_pos hp]; omega, by rw [e, show f + (s - f) = s by omega]⟩
    · exact ⟨p, by rw [if_neg hp], hm.1 _ (by omega)⟩
  rw [eq, es]
  have hsq : s < q := by
    by_cases hp : p < j
    · rw [if_pos hp] at hs; omega
    · rw [if_neg hp] at hs; omega
  by_cases eqj : q = j
  · subst eqj
    have e1 : sw d f (f + q) (f + q) = d f := by unfold sw; rw [if_pos rfl]
    rw [e1]
    unfold sw
    rw [if_neg (by omega)]
    by_cases e2 : f + s = f
    · rw [if_pos e2]; exact top q (by omega)
    · rw [if_neg e2]; exact top s (by omega)
  · have e1 : sw d f (f + j) (f + q) = d (f + q) := by
      unfold sw; rw [if_neg (by omega), if_neg (by omega)]
    rw [e1]
    unfold sw
    by_cases e3 : f + s = f + j
    · rw [if_pos e3]; exact hT 0 q (by omega) (by omega) h3
    · rw [if_neg e3]
      by_cases e4 : f + s = f
      · rw [if_pos e4]; exact hT j q (by omega) (by omega) h3
      · rw [if_neg e4]; exact hT s q hsq (by omega) h3

set_option maxHeartbeats 2000000 in
theorem heapSort (b C n cap lo hi : Nat) (d : Nat → Nat) (w : World) (hr : w.rowIs b 26 C (row d)) (hlo : lo < hi) (hhi : hi ≤ n) (hn : n ≤ C) (hC : n ≤ 1000000) :
    Calls Yba.prog 16 #[.slice (some ⟨b, 0, none⟩) n cap, .int .i64 lo, .int .i64 hi] w fun e w' => e = .returned (.tuple #[]) ∧ Left b C lo hi d w w' (Asc lo hi) := by
  obtain ⟨m, hm⟩ : ∃ m, hi = lo + m := ⟨hi - lo, by omega⟩
  have hm0 : 0 < m := by omega
  have em1 : (hi : Int) - (lo : Int) = (m : Int) := by omega
  have hmC : m ≤ 1000000 := by omega
  have hin : lo + m ≤ n := by omega
  replace hm := hide hm
  replace em1 := hide em1
  go_enter Yba.func16, Yba.ntmps16
  go_wp2
  obtain ⟨k0, hk0⟩ : ∃ k0, k0 = (m - 1) / 2 := ⟨_, rfl⟩
  rw [em1.out, show ((m : Int) - 1) / 2 = ((k0 : Nat) : Int) by omega]
  have hk0' : k0 < m ∧ m ≤ 2 * k0 + 2 := by omega
  clear hk0
  go_loopw [9] (fun vi wr => ∃ (k : Nat) (dk : Nat → Nat), vi = .int .i64 ((k : Int) - 1) ∧ k ≤ m ∧ wr.rowIs b 26 C (row dk) ∧ Below b w wr ∧ Mi lo (lo + m) d dk ∧ Heap lo k m dk) (fun vi _ => nat1 vi)
  case atStart => exact ⟨k0 + 1, d, by go_num, by omega, hr, Below.refl _ _, Mi.refl _ _ _, fun p c h1 h2 h3 => by unfold Ch at h3; omega⟩
  case round =>
    obtain ⟨k, dk, rfl, h1, hrk, hbk, hmk, hH⟩ := hrel
    replace hrk := hide hrk
    rcases k with _ | j
    · rw [show (((0 : Nat) : Int) - 1) = -1 by omega]
      go_wp2
      rw [show ((m : Int) - 1) = (((m - 1 : Nat)) : Int) by omega]
      go_loopw [10] (fun vi wr => ∃ (k : Nat) (dk : Nat → Nat), vi = .int .i64 ((k : Int) - 1) ∧ k ≤ m ∧ wr.rowIs b 26 C (row dk) ∧ Below b w wr ∧ Mi lo (lo + m) d dk ∧ Heap lo 0 k dk ∧ ∀ p q, p < q → k ≤ q → q < m → dk (lo + p) ≤ dk (lo + q)) (fun vi _ => nat1 vi)
      case atStart => exact ⟨m, dk, by go_num, by omega, hrk.out, hbk, hmk, hH, fun p q h1 h2 h3 => by omega⟩
      case round =>
        clear hrk hbk hmk hH
        obtain ⟨k, dk, rfl, h1, hrk, hbk, hmk, hH, hT⟩ := hrel
        replace hrk := hide hrk
        replace hT := hide hT
        rcases k with _ | j
        · rw [show (((0 : Nat) : Int) - 1) = -1 by omega]
          go_wp2
          go_end0
          exact ⟨rfl, hbk, dk, hrk.out, hm.out ▸ hmk, fun p q k1 k2 k3 => by
            have := hT.out (p - lo) (q - lo) (by omega) (by omega) (by have := hm.out; omega)
            rwa [show lo + (p - lo) = p by omega, show lo + (q - lo) = q by omega] at this⟩
        · rw [show (((j + 1 : Nat) : Int) - 1) = (j : Int) by omega]
          have hc0 : wr.cell? ⟨b, lo, none⟩ = some (.int .u32 (dk lo)) := hrk.out.cell (by omega)
          have hcj : wr.cell? ⟨b, lo + j, none⟩ = some (.int .u32 (dk (lo + j))) := hrk.out.cell (by omega)
          have hf : ∀ t, wr.frozen? ⟨b, t, none⟩ = false := fun t => hrk.out.frozen t
          have hlj : lo + j < n := by omega
          have hln : lo < n := by omega
          go_wp2
          by_cases hj : j = 0
          · subst hj
            rw [show lo + 0 = lo from rfl] at hcj
            rw [show ((0 : Nat) : Int) = 0 from rfl]
            go_region
            all_goals go_wp2_with (go_at_call 26; refine (siftDown0 b C n cap 0 lo (sw dk lo (lo + 0)) _ (World.rowIs.drew (row_sw hrk.out lo (lo + 0))) (by omega) hn hC (heap_sw hH)).mono ?_; rintro e w' ⟨rfl, hb', d', hr', hm', hh'⟩)
            all_goals go_roundw
            all_goals first
              | (refine ⟨0, d', rfl, by omega, hr', (below_sw hbk (Nat.le_refl _) _ _ _ _).trans ⟨hb'.os, hb'.tape, hb'.output, hb'.size, hb'.block⟩, (hmk.trans (Mi.sw _ (by omega) (by omega) (by omega) (by omega))).trans (hm'.mono (Nat.le_refl _) (by omega)), hh', heap_tail hH hT.out hm'⟩)
              | (simp [nat1]; omega)
              | (simp [nat1]; done)
          · have hj' : 0 < j := by omega
            go_region
            all_goals go_wp2_with (go_at_call 26; refine (siftDown0 b C n cap j lo (sw dk lo (lo + j)) _ (World.rowIs.drew (row_sw hrk.out lo (lo + j))) (by omega) hn hC (heap_sw hH)).mono ?_; rintro e w' ⟨rfl, hb', d', hr', hm', hh'⟩)
            all_goals go_roundw
            all_goals first
              | (refine ⟨j, d', rfl, by omega, hr', (below_sw hbk (Nat.le_refl _) _ _ _ _).trans ⟨hb'.os, hb'.tape, hb'.output, hb'.size, hb'.block⟩, (hmk.trans (Mi.sw _ (by omega) (by omega) (by omega) (by omega))).trans (hm'.mono (Nat.le_refl _) (by omega)), hh', heap_tail hH hT.out hm'⟩)
              | (simp [nat1]; omega)
              | (simp [nat1]; done)
    · rw [show (((j + 1 : Nat) : Int) - 1) = (j : Int) by omega]
      go_wp2_with (go_at_call 26; refine (siftDown b C n cap j m lo dk _ hrk.out hin (by omega) hn hC hH).mono ?_; rintro e w' ⟨rfl, hb', d', hr', hm', hh'⟩)
      go_roundw
      case rel => exact ⟨j, d', rfl, by omega, hr', hbk.trans hb', hmk.trans hm', hh'⟩
      case measure => simp [nat1]
end Go.Proofs.Ybulkdfzs.S
