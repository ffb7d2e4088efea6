/-
  partialInsertionSortOrdered at ID, walked. Own text.
-/
import Derived.Test.YbulkdfzsSd
namespace Go.Proofs.Ybulkdfzs.S
open Go.RowKit Go.Proofs.Ybulkdfzs.AR
set_option linter.unusedVariables false
set_option linter.unusedSimpArgs false
set_option maxRecDepth 100000

set_option maxHeartbeats 8000000 in
theorem partialIns (b C n cap lo hi : Nat) (d : Nat → Nat) (w : World) (hr : w.rowIs b 26 C (row d)) (hlo : lo < hi) (hhi : hi ≤ n) (hn : n ≤ C) (hC : n ≤ 1000000) (hbl : Hid (lo = 0 ∨ ∀ t, lo ≤ t → t < hi → d (lo - 1) ≤ d t)) :
    Calls Yba.prog 20 #[.slice (some ⟨b, 0, none⟩) n cap, .int .i64 lo, .int .i64 hi] w fun e w' => ∃ p : Bool, e = .returned (.bool p) ∧ Left b C lo hi d w w' (fun d' => p = true → Asc lo hi d') := by
  go_enter Yba.func20, Yba.ntmps20
  go_wp2
  go_loopw [7, 8] (fun vi vj wr => ∃ (i j : Nat) (dk : Nat → Nat), vi = .int .i64 i ∧ vj = .int .i64 j ∧ lo < i ∧ i ≤ hi ∧ j ≤ 5 ∧ wr.rowIs b 26 C (row dk) ∧ Below b w wr ∧ Mi lo hi d dk ∧ Asc lo i dk) (fun _ vj _ => 5 - nat vj)
  case atStart => exact ⟨lo + 1, 0, d, by go_num, by go_num, by omega, by omega, by omega, hr, Below.refl _ _, Mi.refl _ _ _, fun p q h1 h2 h3 => by omega⟩
  case round =>
    clear hr
    obtain ⟨i, j, dk, rfl, rfl, h1, h2, h3, hrk, hbk, hmk, hA⟩ := hrel
    replace hA := hide hA
    go_wp2
    · have hj5 : j < 5 := by omega
      go_loopw [7] (fun vi wr2 => ∃ (i' : Nat), vi = .int .i64 i' ∧ i ≤ i' ∧ i' ≤ hi ∧ wr2.rowIs b 26 C (row dk) ∧ Below b w wr2 ∧ Asc lo i' dk) (fun vi _ => hi - nat vi)
      case atStart => exact ⟨i, rfl, Nat.le_refl _, h2, hrk, hbk, hA.out⟩
      case round =>
        clear hrk hbk hA
        obtain ⟨i', rfl, g1, g2, hr2, hb2, hA2⟩ := hrel
        replace hA2 := hide hA2
        have hc1 : wr.cell? ⟨b, i' - 1, none⟩ = some (.int .u32 (dk (i' - 1))) := hr2.cell (by omega)
        replace hr2 := hide hr2
        go_wp2
        by_cases hih : i' < hi
        · have hin : i' < n := by omega
          have hci : wr.cell? ⟨b, i', none⟩ = some (.int .u32 (dk i')) := hr2.out.cell (by omega)
          have hbe : ((i' : Int) == (hi : Int)) = false := by simp; omega
          go_quiet (first | (go_at_call 21; refine Calls.quiet_of_same (less _ _ _)))
          go_wp2
          · have hl : ¬ dk i' < dk (i' - 1) := by simpa using ‹(!decide (dk i' < dk (i' - 1))) = true›
            go_roundw
            case rel =>
              refine ⟨i' + 1, by go_num, by omega, by omega, rowIs_drewN hr2.out _, Below_drewN hb2 _, ?_⟩
              intro p q k1 k2 k3
              by_cases e : q = i'
              · rw [e]
                by_cases e2 : p = i' - 1
                · rw [e2]; omega
                · have := hA2.out p (i' - 1) k1 (by omega) (by omega); omega
              · exact hA2.out p q k1 k2 (by omega)
            case measure => simp [nat]; omega
          · go_ret
            exact ⟨false, rfl, Below_drewN hb2 _, dk, rowIs_drewN hr2.out _, hmk, fun h => by cases h⟩
          · have h50 : 50 ≤ hi - lo := by omega
            obtain ⟨w3, hww3⟩ : ∃ x, wr.drewN nq = x := ⟨_, rfl⟩
            rw [hww3]
            have hrw3 : Hid (w3.rowIs b 26 C (row (dk))) := hww3 ▸ rowIs_drewN hr2.out nq
            have hbw3 : Below b w w3 := hww3 ▸ Below_drewN hb2 nq
            clear hww3
            have hc3 : w3.cell? ⟨b, i', none⟩ = some (.int .u32 (dk i')) := hrw3.out.cell (by omega)
            have hd3 : w3.cell? ⟨b, i' - 1, none⟩ = some (.int .u32 (dk (i' - 1))) := hrw3.out.cell (by omega)
            have hf3 : ∀ t, w3.frozen? ⟨b, t, none⟩ = false := fun t => hrw3.out.frozen t
            clear hc1 hci hr2 hb2
            have hm4 : Hid (Mi lo hi d (sw dk i' (i' - 1))) := hmk.trans (Mi.sw _ (by omega) (by omega) (by omega) (by omega))
            have hA4 : Hid (∀ p q, lo ≤ p → p < q → q ≤ i' - 1 → q ≠ i' - 1 → sw dk i' (i' - 1) p ≤ sw dk i' (i' - 1) q) := fun p q k1 k2 k3 k4 => by
              rw [sw_other _ (by omega) (by omega), sw_other _ (by omega) (by omega)]
              exact hA2.out p q k1 k2 (by omega)
            go_region
            clear hc3 hd3 hf3
            obtain ⟨w4, hww4⟩ : ∃ x, ((w3.setCell ⟨b, i', none⟩ (.int .u32 (dk (i' - 1)))).setCell ⟨b, i' - 1, none⟩ (.int .u32 (dk i'))).drew = x := ⟨_, rfl⟩
            rw [hww4]
            have hrw4 : Hid (w4.rowIs b 26 C (row (sw dk i' (i' - 1)))) := hww4 ▸ World.rowIs.drew (row_sw hrw3.out i' (i' - 1))
            have hbw4 : Below b w w4 := hww4 ▸ Below.drew (below_sw hbw3 (Nat.le_refl _) _ _ _ _)
            clear hww4
            clear hrw3 hbw3
            obtain ⟨dx, hdx⟩ : ∃ dx, sw dk i' (i' - 1) = dx := ⟨_, rfl⟩
            rw [hdx] at hrw4 hm4 hA4
            clear hdx
            go_wp2
            · -- i - a ≥ 2
              have hi2 : lo + 2 ≤ i' := by omega
              rw [show ((i' : Int) - 1) = ((i' - 1 : Nat) : Int) by omega]
              go_loopw [9] (fun vj wr => ∃ (j' : Nat) (dy : Nat → Nat), vj = .int .i64 j' ∧ lo ≤ j' ∧ j' ≤ i' - 1 ∧ wr.rowIs b 26 C (row dy) ∧ Below b w wr ∧ Mi lo hi d dy ∧ ∀ p q, lo ≤ p → p < q → q ≤ i' - 1 → q ≠ j' → dy p ≤ dy q) (fun vj _ => nat vj)
              case atStart => exact ⟨i' - 1, dx, rfl, by omega, Nat.le_refl _, hrw4.out, hbw4, hm4.out, hA4.out⟩
              case round =>
                clear hrw4 hbw4 hm4 hA4
                obtain ⟨j', dy, rfl, g3, g4, hr5, hb5, hm5, hA5⟩ := hrel
                replace hA5 := hide hA5
                replace hm5 := hide hm5
                have OUT : Hid (lo = j' ∨ dy (j' - 1) ≤ dy j' → Asc lo i' dy) := fun hs p q k1 k2 k3 => by
                  by_cases e : q = j'
                  · rcases hs with hs | hs
                    · omega
                    · by_cases e2 : p = j' - 1
                      · rw [e, e2]; exact hs
                      · have := hA5.out p (j' - 1) k1 (by omega) (by omega) (by omega)
                        rw [e]; omega
                  · exact hA5.out p q k1 k2 (by omega) e
                have hc5 : wr.cell? ⟨b, j', none⟩ = some (.int .u32 (dy j')) := hr5.cell (by omega)
                have hd5 : wr.cell? ⟨b, j' - 1, none⟩ = some (.int .u32 (dy (j' - 1))) := hr5.cell (by omega)
                have hf5 : ∀ t, wr.frozen? ⟨b, t, none⟩ = false := fun t => hr5.frozen t
                replace hr5 := hide hr5
                go_wp2
                · have hj1 : 1 ≤ j' := by omega
                  have hjn : j' < n := by omega
                  go_quiet (first | (go_at_call 21; refine Calls.quiet_of_same (less _ _ _)))
                  go_wp2
                  · have hl : ¬ dy j' < dy (j' - 1) := by simpa using ‹(!decide (dy j' < dy (j' - 1))) = true›
                    have hmx := hm5
                    have hAx : Hid (Asc lo i' dy) := OUT.out (Or.inr (by omega))
                    clear hc5 hd5 hf5
                    obtain ⟨w6, hww6⟩ : ∃ x, wr.drewN nq = x := ⟨_, rfl⟩
                    rw [hww6]
                    have hrw6 : Hid (w6.rowIs b 26 C (row (dy))) := hww6 ▸ rowIs_drewN hr5.out nq
                    have hbw6 : Below b w w6 := hww6 ▸ Below_drewN hb5 nq
                    clear hww6
                    clear hr5 hb5
                    have hbi : i' + 2 ≤ hi := by omega
                    go_loopw [10] (fun vj wr => ∃ (j' : Nat) (dy : Nat → Nat), vj = .int .i64 j' ∧ i' < j' ∧ j' ≤ hi ∧ wr.rowIs b 26 C (row dy) ∧ Below b w wr ∧ Mi lo hi d dy ∧ Asc lo i' dy) (fun vj _ => hi - nat vj)
                    case atStart => exact ⟨i' + 1, _, by go_num, by omega, by omega, hrw6.out, hbw6, hmx.out, hAx.out⟩
                    case round =>
                      clear hrw6 hbw6 hmx hAx
                      obtain ⟨j', dy, rfl, g3, g4, hr5, hb5, hm5, hA5⟩ := hrel
                      replace hA5 := hide hA5
                      replace hm5 := hide hm5
                      have hc5 : wr.cell? ⟨b, j' - 1, none⟩ = some (.int .u32 (dy (j' - 1))) := hr5.cell (by omega)
                      have hd5 : Hid (j' < C → wr.cell? ⟨b, j', none⟩ = some (.int .u32 (dy j'))) := fun h => hr5.cell h
                      have hf5 : ∀ t, wr.frozen? ⟨b, t, none⟩ = false := fun t => hr5.frozen t
                      replace hr5 := hide hr5
                      go_wp2
                      · have hjh : j' < hi := by assumption
                        have hjn : j' < n := by omega
                        replace hd5 := hd5.out (by omega)
                        go_quiet (first | (go_at_call 21; refine Calls.quiet_of_same (less _ _ _)))
                        go_wp2
                        · -- not less: out
                          go_roundw
                          case rel => exact ⟨i', j + 1, dy, rfl, by go_num, by omega, by omega, by omega, rowIs_drewN hr5.out _, Below_drewN hb5 _, hm5.out, hA5.out⟩
                          case measure => simp [nat]; omega
                        · go_region
                          all_goals go_wp2
                          go_roundw
                          case rel =>
                            refine ⟨j' + 1, sw dy j' (j' - 1), by go_num, by omega, by omega, row_sw (rowIs_drewN hr5.out _) j' (j' - 1), below_sw (Below_drewN hb5 _) (Nat.le_refl _) _ _ _ _, hm5.out.trans (Mi.sw _ (by omega) (by omega) (by omega) (by omega)), ?_⟩
                            intro p q k1 k2 k3
                            rw [sw_other _ (by omega) (by omega), sw_other _ (by omega) (by omega)]
                            exact hA5.out p q k1 k2 k3
                          case measure => simp [nat]; omega
                      · go_roundw
                        case rel => exact ⟨i', j + 1, dy, rfl, by go_num, by omega, by omega, by omega, hr5.out, hb5, hm5.out, hA5.out⟩
                        case measure => simp [nat]; omega
                  · have hl : ¬ dy j' < dy (j' - 1) := by simpa using ‹(!decide (dy j' < dy (j' - 1))) = true›
                    have hmx := hm5
                    have hAx : Hid (Asc lo i' dy) := OUT.out (Or.inr (by omega))
                    clear hc5 hd5 hf5
                    obtain ⟨w6, hww6⟩ : ∃ x, wr.drewN nq = x := ⟨_, rfl⟩
                    rw [hww6]
                    have hrw6 : Hid (w6.rowIs b 26 C (row (dy))) := hww6 ▸ rowIs_drewN hr5.out nq
                    have hbw6 : Below b w w6 := hww6 ▸ Below_drewN hb5 nq
                    clear hww6
                    clear hr5 hb5
                    go_roundw
                    case rel => exact ⟨i', j + 1, _, rfl, by go_num, by omega, by omega, by omega, hrw6.out, hbw6, hmx.out, hAx.out⟩
                    case measure => simp [nat]; omega
                  · have hl : dy j' < dy (j' - 1) := by
                      first
                        | simpa using ‹(!decide (dy j' < dy (j' - 1))) = false›
                        | simpa using ‹¬ (!decide (dy j' < dy (j' - 1))) = true›
                    have hlj : lo < j' := by
                      rcases Nat.lt_or_ge lo j' with h | h
                      · exact h
                      · exfalso
                        have e : j' = lo := by omega
                        rcases hbl.out with h0 | h0
                        · omega
                        · have k1 := hm5.out.all h0 j' (by omega) (by omega)
                          have k2 := hm5.out.1 (j' - 1) (by omega)
                          rw [k2] at hl
                          rw [e] at hl k1
                          omega
                    go_region
                    all_goals go_wp2
                    go_roundw
                    case rel =>
                      refine ⟨j' - 1, sw dy j' (j' - 1), by congr 1; omega, by omega, by omega, row_sw (rowIs_drewN hr5.out _) j' (j' - 1), below_sw (Below_drewN hb5 _) (Nat.le_refl _) _ _ _ _, hm5.out.trans (Mi.sw _ (by omega) (by omega) (by omega) (by omega)), ?_⟩
                      intro p q h1 h2 h3 h4
                      have k1 := hA5.out p q h1 h2 h3
                      have k2 := hA5.out p (j' - 1) h1
                      have k3 := hA5.out (j' - 1) q (by omega)
                      have k4 := hA5.out j' q (by omega)
                      by_cases e1 : q = j'
                      · rw [e1, sw_left]
                        by_cases e2 : p = j' - 1
                        · rw [e2, sw_right]; omega
                        · rw [sw_other _ (by omega) e2]
                          exact k2 (by omega) (by omega) (by omega)
                      · rw [sw_other _ e1 h4]
                        by_cases e2 : p = j' - 1
                        · rw [e2, sw_right]
                          exact k4 (by omega) (by omega) (by omega)
                        · by_cases e3 : p = j'
                          · rw [e3, sw_left]
                            exact k3 (by omega) (by omega) (by omega)
                          · rw [sw_other _ e3 e2]
                            exact k1 (by omega)
                    case measure => simp [nat]; omega
                · have hj0 : lo = j' := by omega
                  have hmx := hm5
                  have hAx : Hid (Asc lo i' dy) := OUT.out (Or.inl hj0)
                  clear hc5 hd5 hf5
                  have hrwr := hr5
                  have hbwr := hb5
                  clear hr5 hb5
                  have hbi : i' + 2 ≤ hi := by omega
                  go_loopw [10] (fun vj wr => ∃ (j' : Nat) (dy : Nat → Nat), vj = .int .i64 j' ∧ i' < j' ∧ j' ≤ hi ∧ wr.rowIs b 26 C (row dy) ∧ Below b w wr ∧ Mi lo hi d dy ∧ Asc lo i' dy) (fun vj _ => hi - nat vj)
                  case atStart => exact ⟨i' + 1, _, by go_num, by omega, by omega, hrwr.out, hbwr, hmx.out, hAx.out⟩
                  case round =>
                    clear hrwr hbwr hmx hAx
                    obtain ⟨j', dy, rfl, g3, g4, hr5, hb5, hm5, hA5⟩ := hrel
                    replace hA5 := hide hA5
                    replace hm5 := hide hm5
                    have hc5 : wr.cell? ⟨b, j' - 1, none⟩ = some (.int .u32 (dy (j' - 1))) := hr5.cell (by omega)
                    have hd5 : Hid (j' < C → wr.cell? ⟨b, j', none⟩ = some (.int .u32 (dy j'))) := fun h => hr5.cell h
                    have hf5 : ∀ t, wr.frozen? ⟨b, t, none⟩ = false := fun t => hr5.frozen t
                    replace hr5 := hide hr5
                    go_wp2
                    · have hjh : j' < hi := by assumption
                      have hjn : j' < n := by omega
                      replace hd5 := hd5.out (by omega)
                      go_quiet (first | (go_at_call 21; refine Calls.quiet_of_same (less _ _ _)))
                      go_wp2
                      · -- not less: out
                        go_roundw
                        case rel => exact ⟨i', j + 1, dy, rfl, by go_num, by omega, by omega, by omega, rowIs_drewN hr5.out _, Below_drewN hb5 _, hm5.out, hA5.out⟩
                        case measure => simp [nat]; omega
                      · go_region
                        all_goals go_wp2
                        go_roundw
                        case rel =>
                          refine ⟨j' + 1, sw dy j' (j' - 1), by go_num, by omega, by omega, row_sw (rowIs_drewN hr5.out _) j' (j' - 1), below_sw (Below_drewN hb5 _) (Nat.le_refl _) _ _ _ _, hm5.out.trans (Mi.sw _ (by omega) (by omega) (by omega) (by omega)), ?_⟩
                          intro p q k1 k2 k3
                          rw [sw_other _ (by omega) (by omega), sw_other _ (by omega) (by omega)]
                          exact hA5.out p q k1 k2 k3
                        case measure => simp [nat]; omega
                    · go_roundw
                      case rel => exact ⟨i', j + 1, dy, rfl, by go_num, by omega, by omega, by omega, hr5.out, hb5, hm5.out, hA5.out⟩
                      case measure => simp [nat]; omega
                · have hj0 : lo = j' := by omega
                  have hmx := hm5
                  have hAx : Hid (Asc lo i' dy) := OUT.out (Or.inl hj0)
                  clear hc5 hd5 hf5
                  have hrwr := hr5
                  have hbwr := hb5
                  clear hr5 hb5
                  go_roundw
                  case rel => exact ⟨i', j + 1, _, rfl, by go_num, by omega, by omega, by omega, hrwr.out, hbwr, hmx.out, hAx.out⟩
                  case measure => simp [nat]; omega
            · have hi2 : i' = lo + 1 := by omega
              have hmx := hm4
              have hAx : Hid (Asc lo i' dx) := fun p q k1 k2 k3 => by omega
              go_wp2
              have hbi : i' + 2 ≤ hi := by omega
              go_loopw [10] (fun vj wr => ∃ (j' : Nat) (dy : Nat → Nat), vj = .int .i64 j' ∧ i' < j' ∧ j' ≤ hi ∧ wr.rowIs b 26 C (row dy) ∧ Below b w wr ∧ Mi lo hi d dy ∧ Asc lo i' dy) (fun vj _ => hi - nat vj)
              case atStart => exact ⟨i' + 1, _, by go_num, by omega, by omega, hrw4.out, hbw4, hmx.out, hAx.out⟩
              case round =>
                clear hrw4 hbw4 hmx hAx
                obtain ⟨j', dy, rfl, g3, g4, hr5, hb5, hm5, hA5⟩ := hrel
                replace hA5 := hide hA5
                replace hm5 := hide hm5
                have hc5 : wr.cell? ⟨b, j' - 1, none⟩ = some (.int .u32 (dy (j' - 1))) := hr5.cell (by omega)
                have hd5 : Hid (j' < C → wr.cell? ⟨b, j', none⟩ = some (.int .u32 (dy j'))) := fun h => hr5.cell h
                have hf5 : ∀ t, wr.frozen? ⟨b, t, none⟩ = false := fun t => hr5.frozen t
                replace hr5 := hide hr5
                go_wp2
                · have hjh : j' < hi := by assumption
                  have hjn : j' < n := by omega
                  replace hd5 := hd5.out (by omega)
                  go_quiet (first | (go_at_call 21; refine Calls.quiet_of_same (less _ _ _)))
                  go_wp2
                  · -- not less: out
                    go_roundw
                    case rel => exact ⟨i', j + 1, dy, rfl, by go_num, by omega, by omega, by omega, rowIs_drewN hr5.out _, Below_drewN hb5 _, hm5.out, hA5.out⟩
                    case measure => simp [nat]; omega
                  · go_region
                    all_goals go_wp2
                    go_roundw
                    case rel =>
                      refine ⟨j' + 1, sw dy j' (j' - 1), by go_num, by omega, by omega, row_sw (rowIs_drewN hr5.out _) j' (j' - 1), below_sw (Below_drewN hb5 _) (Nat.le_refl _) _ _ _ _, hm5.out.trans (Mi.sw _ (by omega) (by omega) (by omega) (by omega)), ?_⟩
                      intro p q k1 k2 k3
                      rw [sw_other _ (by omega) (by omega), sw_other _ (by omega) (by omega)]
                      exact hA5.out p q k1 k2 k3
                    case measure => simp [nat]; omega
                · go_roundw
                  case rel => exact ⟨i', j + 1, dy, rfl, by go_num, by omega, by omega, by omega, hr5.out, hb5, hm5.out, hA5.out⟩
                  case measure => simp [nat]; omega
        · have hie : i' = hi := by omega
          go_quiet (first | (go_at_call 21; refine Calls.quiet_of_same (less _ _ _)))
          go_wp2
          go_ret
          exact ⟨true, rfl, Below_drewN hb2 _, dk, rowIs_drewN hr2.out _, hmk, fun _ => hie ▸ hA2.out⟩
    · go_ret
      exact ⟨false, rfl, hbk, dk, hrk, hmk, fun h => by cases h⟩
end Go.Proofs.Ybulkdfzs.S
