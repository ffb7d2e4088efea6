/-
  partitionEqualOrdered at ID, walked. Own text.
-/
import Derived.Test.YbulkdfzsSc
namespace Go.Proofs.Ybulkdfzs.S
open Go.RowKit Go.Proofs.Ybulkdfzs.AR
set_option linter.unusedVariables false
set_option linter.unusedSimpArgs false
set_option maxRecDepth 100000

theorem sw_left (d : Nat → Nat) (i j : Nat) : sw d i j i = d j := by
  unfold sw
  by_cases e : i = j
  · rw [if_pos e, e]
  · rw [if_neg e, if_pos rfl]
theorem sw_right (d : Nat → Nat) (i j : Nat) : sw d i j j = d i := by unfold sw; rw [if_pos rfl]
theorem sw_other (d : Nat → Nat) {i j t : Nat} (h1 : t ≠ i) (h2 : t ≠ j) : sw d i j t = d t := by unfold sw; rw [if_neg h2, if_neg h1]

set_option maxHeartbeats 4000000 in
theorem partEq (b C n cap lo hi pv : Nat) (d : Nat → Nat) (v : Nat) (w : World) (hr : w.rowIs b 26 C (row d)) (hlo : lo ≤ pv) (hpv : pv < hi) (hhi : hi ≤ n) (hn : n ≤ C) (hC : n ≤ 1000000) (hv : Hid (d pv = v)) (hmin : Hid (∀ t, lo ≤ t → t < hi → v ≤ d t)) :
    Calls Yba.prog 22 #[.slice (some ⟨b, 0, none⟩) n cap, .int .i64 lo, .int .i64 hi, .int .i64 pv] w fun e w' => ∃ mid : Nat, e = .returned (.int .i64 mid) ∧ lo < mid ∧ mid ≤ hi ∧
      Left b C lo hi d w w' (fun d' => (∀ t, lo ≤ t → t < mid → d' t = v) ∧ ∀ t, mid ≤ t → t < hi → v < d' t) := by
  go_enter Yba.func22, Yba.ntmps22
  have hc0 : w.cell? ⟨b, lo, none⟩ = some (.int .u32 (d lo)) := hr.cell (by omega)
  have hcp : w.cell? ⟨b, pv, none⟩ = some (.int .u32 (d pv)) := hr.cell (by omega)
  have hf : ∀ t, w.frozen? ⟨b, t, none⟩ = false := fun t => hr.frozen t
  have hln : lo < n := by omega
  have hpn : pv < n := by omega
  have hm1 : Hid (Mi lo hi d (sw d lo pv)) := Mi.sw _ (by omega) (by omega) (by omega) (by omega)
  have hv1 : Hid (sw d lo pv lo = v) := (sw_left _ _ _).trans hv.out
  have hr1 := hide (row_sw hr lo pv)
  have hb1 := hide (below_sw (Below.refl b w) (Nat.le_refl _) lo pv (.int .u32 (d pv)) (.int .u32 (d lo)))
  replace hr := hide hr
  obtain ⟨d1, hd1⟩ : ∃ d1, sw d lo pv = d1 := ⟨_, rfl⟩
  rw [hd1] at hm1 hv1 hr1
  clear hd1
  go_wp2
  by_cases hpa : lo = pv
  · subst hpa
    clear hv hlo hpn
    go_region
    all_goals go_wp2
    go_loopw [9, 10] (fun vi vj wr => ∃ (i j : Nat) (dk : Nat → Nat), vi = .int .i64 i ∧ vj = .int .i64 j ∧ lo < i ∧ i ≤ j + 1 ∧ j < hi ∧ wr.rowIs b 26 C (row dk) ∧ Below b w wr ∧ Mi lo hi d dk ∧ dk lo = v ∧ (∀ t, lo ≤ t → t < i → dk t ≤ v) ∧ (∀ t, j < t → t < hi → v < dk t)) (fun vi vj _ => nat vj + 1 - nat vi)
    case atStart => exact ⟨lo + 1, hi - 1, d1, by go_num, by congr 1; omega, by omega, by omega, by omega, World.rowIs.drew hr1.out, Below.drew hb1.out, hm1.out, hv1.out, fun t h1 h2 => by rw [show t = lo by omega, hv1.out]; exact Nat.le_refl _, fun t h1 h2 => by omega⟩
    case round =>
      clear hc0 hcp hf hr1 hb1 hm1 hv1
      obtain ⟨i, j, dk, rfl, rfl, h1, h2, h3, hrk, hbk, hmk, hvk, hL, hR⟩ := hrel
      replace hL := hide hL
      replace hR := hide hR
      replace hvk := hide hvk
      go_wp2
      go_loopw [9] (fun vi wr2 => ∃ (i' : Nat), vi = .int .i64 i' ∧ i ≤ i' ∧ i' ≤ j + 1 ∧ wr2.rowIs b 26 C (row dk) ∧ Below b w wr2 ∧ ∀ t, lo ≤ t → t < i' → dk t ≤ v) (fun vi _ => j + 1 - nat vi)
      case atStart => exact ⟨i, rfl, Nat.le_refl _, h2, hrk, hbk, hL.out⟩
      case round =>
        obtain ⟨i', rfl, g1, g2, hr2, hb2, hL2⟩ := hrel
        replace hL2 := hide hL2
        have hcl : wr.cell? ⟨b, lo, none⟩ = some (.int .u32 (dk lo)) := hr2.cell (by omega)
        have hci : wr.cell? ⟨b, i', none⟩ = some (.int .u32 (dk i')) ∨ ¬ i' ≤ j := by
          by_cases e : i' ≤ j
          · exact Or.inl (hr2.cell (by omega))
          · exact Or.inr e
        replace hr2 := hide hr2
        replace hci := hide hci
        clear hrk hbk hL
        go_wp2
        by_cases hij : i' ≤ j
        · have hin : i' < n := by omega
          replace hci : wr.cell? ⟨b, i', none⟩ = some (.int .u32 (dk i')) := hr2.out.cell (by omega)
          go_quiet (first | (go_at_call 21; refine Calls.quiet_of_same (less _ _ _)))
          go_wp2
          · have hl : ¬ dk lo < dk i' := by simpa using ‹(!decide (dk lo < dk i')) = true›
            go_roundw
            case rel =>
              refine ⟨i' + 1, by go_num, by omega, by omega, rowIs_drewN hr2.out _, Below_drewN hb2 _, ?_⟩
              intro t k1 k2
              by_cases e : t = i'
              · rw [e, ← hvk.out]; omega
              · exact hL2.out t k1 (by omega)
            case measure => simp [nat]; omega
          · have hl : dk lo < dk i' := by
              first
                | simpa using ‹(!decide (dk lo < dk i')) = false›
                | simpa using ‹¬ (!decide (dk lo < dk i')) = true›
            have hE1 : Hid (i' ≤ j → dk lo < dk i') := fun _ => hl
            clear hcl hci
            obtain ⟨w2, hw2⟩ : ∃ w2, wr.drewN nq = w2 := ⟨_, rfl⟩
            rw [hw2]
            replace hr2 : Hid (w2.rowIs b 26 C (row dk)) := hw2 ▸ rowIs_drewN hr2.out nq
            replace hb2 : Below b w w2 := hw2 ▸ Below_drewN hb2 nq
            clear hw2
            go_loopw [10] (fun vj wr2 => ∃ (j' : Nat), vj = .int .i64 j' ∧ i' ≤ j' + 1 ∧ j' ≤ j ∧ wr2.rowIs b 26 C (row dk) ∧ Below b w wr2 ∧ ∀ t, j' < t → t < hi → v < dk t) (fun vj _ => nat vj)
            case atStart => exact ⟨j, rfl, by omega, Nat.le_refl _, hr2.out, hb2, hR.out⟩
            case round =>
              obtain ⟨j', rfl, g3, g4, hr3, hb3, hR2⟩ := hrel
              replace hR2 := hide hR2
              have hcl : wr.cell? ⟨b, lo, none⟩ = some (.int .u32 (dk lo)) := hr3.cell (by omega)
              have hcj : wr.cell? ⟨b, j', none⟩ = some (.int .u32 (dk j')) := hr3.cell (by omega)
              have hf3 : ∀ t, wr.frozen? ⟨b, t, none⟩ = false := fun t => hr3.frozen t
              have hci : True := trivial
              replace hr3 := hide hr3
              have hjn : j' < n := by omega
              go_wp2
              by_cases hij : i' ≤ j'
              · go_quiet (first | (go_at_call 21; refine Calls.quiet_of_same (less _ _ _)))
                go_wp2
                · have hl : dk lo < dk j' := by assumption
                  go_roundw
                  case rel =>
                    refine ⟨j' - 1, by congr 1; omega, by omega, by omega, rowIs_drewN hr3.out _, Below_drewN hb3 _, ?_⟩
                    intro t k1 k2
                    by_cases e : t = j'
                    · rw [e, ← hvk.out]; exact hl
                    · exact hR2.out t (by omega) k2
                  case measure => simp [nat]; omega
                · have hl : ¬ dk lo < dk j' := by assumption
                  have hE2 : Hid (i' ≤ j' → dk j' ≤ dk lo) := fun _ => by omega
                  clear hcl hci hcj hf3
                  have hle : ¬ j' < i' := by omega
                  have hlt2 : i' < j' := by
                    rcases Nat.lt_or_ge i' j' with h | h
                    · exact h
                    · exfalso
                      have he : i' = j' := by omega
                      have e1 := hE1.out
                      have e2 := hE2.out
                      rw [he] at e1
                      omega
                  obtain ⟨w4, hw4⟩ : ∃ w4, wr.drewN nq = w4 := ⟨_, rfl⟩
                  rw [hw4]
                  have hr4 : Hid (w4.rowIs b 26 C (row dk)) := hw4 ▸ rowIs_drewN hr3.out nq
                  have hb4 : Below b w w4 := hw4 ▸ Below_drewN hb3 nq
                  have hci4 : w4.cell? ⟨b, i', none⟩ = some (.int .u32 (dk i')) := hr4.out.cell (by omega)
                  have hcj4 : w4.cell? ⟨b, j', none⟩ = some (.int .u32 (dk j')) := hr4.out.cell (by omega)
                  have hf4 : ∀ t, w4.frozen? ⟨b, t, none⟩ = false := fun t => hr4.out.frozen t
                  have hin : i' < n := by omega
                  have hjn : j' < n := by omega
                  clear hw4 hr3 hb3
                  go_region
                  all_goals go_wp2
                  go_roundw
                  case rel =>
                    refine ⟨i' + 1, j' - 1, sw dk i' j', by go_num, by congr 1; omega, by omega, by omega, by omega, row_sw (rowIs_drewN hr4.out _) i' j', below_sw (Below_drewN hb4 _) (Nat.le_refl _) _ _ _ _, hmk.trans (Mi.sw _ (by omega) (by omega) (by omega) (by omega)), (sw_other _ (by omega) (by omega)).trans hvk.out, ?_, ?_⟩
                    · intro t k1 k2
                      by_cases e : t = i'
                      · rw [e, sw_left]; have e2 := hE2.out; have := hvk.out; omega
                      · rw [sw_other _ e (by omega)]; exact hL2.out t k1 (by omega)
                    · intro t k1 k2
                      by_cases e : t = j'
                      · rw [e, sw_right]; have e1 := hE1.out; have := hvk.out; omega
                      · rw [sw_other _ (by omega) e]; exact hR2.out t (by omega) k2
                  case measure => simp [nat]; omega
              · have hE2 : Hid (i' ≤ j' → dk j' ≤ dk lo) := fun h => absurd h hij
                go_quiet (first | (go_at_call 21; refine Calls.quiet_of_same (less _ _ _)))
                go_wp2
                clear hcl hci hcj hf3
                skip
                have hgt : j' < i' := by omega
                go_ret
                exact ⟨i', rfl, by omega, by omega, Below_drewN hb3 _, dk, rowIs_drewN hr3.out _, hmk, fun t k1 k2 => Nat.le_antisymm (hL2.out t k1 k2) (hmk.all hmin.out t k1 (by omega)), fun t k1 k2 => hR2.out t (by omega) k2⟩
        · have hE1 : Hid (i' ≤ j → dk lo < dk i') := fun h => absurd h hij
          go_quiet (first | (go_at_call 21; refine Calls.quiet_of_same (less _ _ _)))
          go_wp2
          clear hcl hci
          obtain ⟨w2, hw2⟩ : ∃ w2, wr.drewN nq = w2 := ⟨_, rfl⟩
          rw [hw2]
          replace hr2 : Hid (w2.rowIs b 26 C (row dk)) := hw2 ▸ rowIs_drewN hr2.out nq
          replace hb2 : Below b w w2 := hw2 ▸ Below_drewN hb2 nq
          clear hw2
          go_loopw [10] (fun vj wr2 => ∃ (j' : Nat), vj = .int .i64 j' ∧ i' ≤ j' + 1 ∧ j' ≤ j ∧ wr2.rowIs b 26 C (row dk) ∧ Below b w wr2 ∧ ∀ t, j' < t → t < hi → v < dk t) (fun vj _ => nat vj)
          case atStart => exact ⟨j, rfl, by omega, Nat.le_refl _, hr2.out, hb2, hR.out⟩
          case round =>
            obtain ⟨j', rfl, g3, g4, hr3, hb3, hR2⟩ := hrel
            replace hR2 := hide hR2
            have hcl : wr.cell? ⟨b, lo, none⟩ = some (.int .u32 (dk lo)) := hr3.cell (by omega)
            have hcj : wr.cell? ⟨b, j', none⟩ = some (.int .u32 (dk j')) := hr3.cell (by omega)
            have hf3 : ∀ t, wr.frozen? ⟨b, t, none⟩ = false := fun t => hr3.frozen t
            have hci : True := trivial
            replace hr3 := hide hr3
            have hjn : j' < n := by omega
            go_wp2
            by_cases hij : i' ≤ j'
            · exfalso; omega
            · have hE2 : Hid (i' ≤ j' → dk j' ≤ dk lo) := fun h => absurd h hij
              go_quiet (first | (go_at_call 21; refine Calls.quiet_of_same (less _ _ _)))
              go_wp2
              clear hcl hci hcj hf3
              skip
              have hgt : j' < i' := by omega
              go_ret
              exact ⟨i', rfl, by omega, by omega, Below_drewN hb3 _, dk, rowIs_drewN hr3.out _, hmk, fun t k1 k2 => Nat.le_antisymm (hL2.out t k1 k2) (hmk.all hmin.out t k1 (by omega)), fun t k1 k2 => hR2.out t (by omega) k2⟩
  · have hpa' : lo < pv := by omega
    clear hv hlo hpa
    go_region
    all_goals go_wp2
    go_loopw [9, 10] (fun vi vj wr => ∃ (i j : Nat) (dk : Nat → Nat), vi = .int .i64 i ∧ vj = .int .i64 j ∧ lo < i ∧ i ≤ j + 1 ∧ j < hi ∧ wr.rowIs b 26 C (row dk) ∧ Below b w wr ∧ Mi lo hi d dk ∧ dk lo = v ∧ (∀ t, lo ≤ t → t < i → dk t ≤ v) ∧ (∀ t, j < t → t < hi → v < dk t)) (fun vi vj _ => nat vj + 1 - nat vi)
    case atStart => exact ⟨lo + 1, hi - 1, d1, by go_num, by congr 1; omega, by omega, by omega, by omega, World.rowIs.drew hr1.out, Below.drew hb1.out, hm1.out, hv1.out, fun t h1 h2 => by rw [show t = lo by omega, hv1.out]; exact Nat.le_refl _, fun t h1 h2 => by omega⟩
    case round =>
      clear hc0 hcp hf hr1 hb1 hm1 hv1
      obtain ⟨i, j, dk, rfl, rfl, h1, h2, h3, hrk, hbk, hmk, hvk, hL, hR⟩ := hrel
      replace hL := hide hL
      replace hR := hide hR
      replace hvk := hide hvk
      go_wp2
      go_loopw [9] (fun vi wr2 => ∃ (i' : Nat), vi = .int .i64 i' ∧ i ≤ i' ∧ i' ≤ j + 1 ∧ wr2.rowIs b 26 C (row dk) ∧ Below b w wr2 ∧ ∀ t, lo ≤ t → t < i' → dk t ≤ v) (fun vi _ => j + 1 - nat vi)
      case atStart => exact ⟨i, rfl, Nat.le_refl _, h2, hrk, hbk, hL.out⟩
      case round =>
        obtain ⟨i', rfl, g1, g2, hr2, hb2, hL2⟩ := hrel
        replace hL2 := hide hL2
        have hcl : wr.cell? ⟨b, lo, none⟩ = some (.int .u32 (dk lo)) := hr2.cell (by omega)
        have hci : wr.cell? ⟨b, i', none⟩ = some (.int .u32 (dk i')) ∨ ¬ i' ≤ j := by
          by_cases e : i' ≤ j
          · exact Or.inl (hr2.cell (by omega))
          · exact Or.inr e
        replace hr2 := hide hr2
        replace hci := hide hci
        clear hrk hbk hL
        go_wp2
        by_cases hij : i' ≤ j
        · have hin : i' < n := by omega
          replace hci : wr.cell? ⟨b, i', none⟩ = some (.int .u32 (dk i')) := hr2.out.cell (by omega)
          go_quiet (first | (go_at_call 21; refine Calls.quiet_of_same (less _ _ _)))
          go_wp2
          · have hl : ¬ dk lo < dk i' := by simpa using ‹(!decide (dk lo < dk i')) = true›
            go_roundw
            case rel =>
              refine ⟨i' + 1, by go_num, by omega, by omega, rowIs_drewN hr2.out _, Below_drewN hb2 _, ?_⟩
              intro t k1 k2
              by_cases e : t = i'
              · rw [e, ← hvk.out]; omega
              · exact hL2.out t k1 (by omega)
            case measure => simp [nat]; omega
          · have hl : dk lo < dk i' := by
              first
                | simpa using ‹(!decide (dk lo < dk i')) = false›
                | simpa using ‹¬ (!decide (dk lo < dk i')) = true›
            have hE1 : Hid (i' ≤ j → dk lo < dk i') := fun _ => hl
            clear hcl hci
            obtain ⟨w2, hw2⟩ : ∃ w2, wr.drewN nq = w2 := ⟨_, rfl⟩
            rw [hw2]
            replace hr2 : Hid (w2.rowIs b 26 C (row dk)) := hw2 ▸ rowIs_drewN hr2.out nq
            replace hb2 : Below b w w2 := hw2 ▸ Below_drewN hb2 nq
            clear hw2
            go_loopw [10] (fun vj wr2 => ∃ (j' : Nat), vj = .int .i64 j' ∧ i' ≤ j' + 1 ∧ j' ≤ j ∧ wr2.rowIs b 26 C (row dk) ∧ Below b w wr2 ∧ ∀ t, j' < t → t < hi → v < dk t) (fun vj _ => nat vj)
            case atStart => exact ⟨j, rfl, by omega, Nat.le_refl _, hr2.out, hb2, hR.out⟩
            case round =>
              obtain ⟨j', rfl, g3, g4, hr3, hb3, hR2⟩ := hrel
              replace hR2 := hide hR2
              have hcl : wr.cell? ⟨b, lo, none⟩ = some (.int .u32 (dk lo)) := hr3.cell (by omega)
              have hcj : wr.cell? ⟨b, j', none⟩ = some (.int .u32 (dk j')) := hr3.cell (by omega)
              have hf3 : ∀ t, wr.frozen? ⟨b, t, none⟩ = false := fun t => hr3.frozen t
              have hci : True := trivial
              replace hr3 := hide hr3
              have hjn : j' < n := by omega
              go_wp2
              by_cases hij : i' ≤ j'
              · go_quiet (first | (go_at_call 21; refine Calls.quiet_of_same (less _ _ _)))
                go_wp2
                · have hl : dk lo < dk j' := by assumption
                  go_roundw
                  case rel =>
                    refine ⟨j' - 1, by congr 1; omega, by omega, by omega, rowIs_drewN hr3.out _, Below_drewN hb3 _, ?_⟩
                    intro t k1 k2
                    by_cases e : t = j'
                    · rw [e, ← hvk.out]; exact hl
                    · exact hR2.out t (by omega) k2
                  case measure => simp [nat]; omega
                · have hl : ¬ dk lo < dk j' := by assumption
                  have hE2 : Hid (i' ≤ j' → dk j' ≤ dk lo) := fun _ => by omega
                  clear hcl hci hcj hf3
                  have hle : ¬ j' < i' := by omega
                  have hlt2 : i' < j' := by
                    rcases Nat.lt_or_ge i' j' with h | h
                    · exact h
                    · exfalso
                      have he : i' = j' := by omega
                      have e1 := hE1.out
                      have e2 := hE2.out
                      rw [he] at e1
                      omega
                  obtain ⟨w4, hw4⟩ : ∃ w4, wr.drewN nq = w4 := ⟨_, rfl⟩
                  rw [hw4]
                  have hr4 : Hid (w4.rowIs b 26 C (row dk)) := hw4 ▸ rowIs_drewN hr3.out nq
                  have hb4 : Below b w w4 := hw4 ▸ Below_drewN hb3 nq
                  have hci4 : w4.cell? ⟨b, i', none⟩ = some (.int .u32 (dk i')) := hr4.out.cell (by omega)
                  have hcj4 : w4.cell? ⟨b, j', none⟩ = some (.int .u32 (dk j')) := hr4.out.cell (by omega)
                  have hf4 : ∀ t, w4.frozen? ⟨b, t, none⟩ = false := fun t => hr4.out.frozen t
                  have hin : i' < n := by omega
                  have hjn : j' < n := by omega
                  clear hw4 hr3 hb3
                  go_region
                  all_goals go_wp2
                  go_roundw
                  case rel =>
                    refine ⟨i' + 1, j' - 1, sw dk i' j', by go_num, by congr 1; omega, by omega, by omega, by omega, row_sw (rowIs_drewN hr4.out _) i' j', below_sw (Below_drewN hb4 _) (Nat.le_refl _) _ _ _ _, hmk.trans (Mi.sw _ (by omega) (by omega) (by omega) (by omega)), (sw_other _ (by omega) (by omega)).trans hvk.out, ?_, ?_⟩
                    · intro t k1 k2
                      by_cases e : t = i'
                      · rw [e, sw_left]; have e2 := hE2.out; have := hvk.out; omega
                      · rw [sw_other _ e (by omega)]; exact hL2.out t k1 (by omega)
                    · intro t k1 k2
                      by_cases e : t = j'
                      · rw [e, sw_right]; have e1 := hE1.out; have := hvk.out; omega
                      · rw [sw_other _ (by omega) e]; exact hR2.out t (by omega) k2
                  case measure => simp [nat]; omega
              · have hE2 : Hid (i' ≤ j' → dk j' ≤ dk lo) := fun h => absurd h hij
                go_quiet (first | (go_at_call 21; refine Calls.quiet_of_same (less _ _ _)))
                go_wp2
                clear hcl hci hcj hf3
                skip
                have hgt : j' < i' := by omega
                go_ret
                exact ⟨i', rfl, by omega, by omega, Below_drewN hb3 _, dk, rowIs_drewN hr3.out _, hmk, fun t k1 k2 => Nat.le_antisymm (hL2.out t k1 k2) (hmk.all hmin.out t k1 (by omega)), fun t k1 k2 => hR2.out t (by omega) k2⟩
        · have hE1 : Hid (i' ≤ j → dk lo < dk i') := fun h => absurd h hij
          go_quiet (first | (go_at_call 21; refine Calls.quiet_of_same (less _ _ _)))
          go_wp2
          clear hcl hci
          obtain ⟨w2, hw2⟩ : ∃ w2, wr.drewN nq = w2 := ⟨_, rfl⟩
          rw [hw2]
          replace hr2 : Hid (w2.rowIs b 26 C (row dk)) := hw2 ▸ rowIs_drewN hr2.out nq
          replace hb2 : Below b w w2 := hw2 ▸ Below_drewN hb2 nq
          clear hw2
          go_loopw [10] (fun vj wr2 => ∃ (j' : Nat), vj = .int .i64 j' ∧ i' ≤ j' + 1 ∧ j' ≤ j ∧ wr2.rowIs b 26 C (row dk) ∧ Below b w wr2 ∧ ∀ t, j' < t → t < hi → v < dk t) (fun vj _ => nat vj)
          case atStart => exact ⟨j, rfl, by omega, Nat.le_refl _, hr2.out, hb2, hR.out⟩
          case round =>
            obtain ⟨j', rfl, g3, g4, hr3, hb3, hR2⟩ := hrel
            replace hR2 := hide hR2
            have hcl : wr.cell? ⟨b, lo, none⟩ = some (.int .u32 (dk lo)) := hr3.cell (by omega)
            have hcj : wr.cell? ⟨b, j', none⟩ = some (.int .u32 (dk j')) := hr3.cell (by omega)
            have hf3 : ∀ t, wr.frozen? ⟨b, t, none⟩ = false := fun t => hr3.frozen t
            have hci : True := trivial
            replace hr3 := hide hr3
            have hjn : j' < n := by omega
            go_wp2
            by_cases hij : i' ≤ j'
            · exfalso; omega
            · have hE2 : Hid (i' ≤ j' → dk j' ≤ dk lo) := fun h => absurd h hij
              go_quiet (first | (go_at_call 21; refine Calls.quiet_of_same (less _ _ _)))
              go_wp2
              clear hcl hci hcj hf3
              skip
              have hgt : j' < i' := by omega
              go_ret
              exact ⟨i', rfl, by omega, by omega, Below_drewN hb3 _, dk, rowIs_drewN hr3.out _, hmk, fun t k1 k2 => Nat.le_antisymm (hL2.out t k1 k2) (hmk.all hmin.out t k1 (by omega)), fun t k1 k2 => hR2.out t (by omega) k2⟩
end Go.Proofs.Ybulkdfzs.S
