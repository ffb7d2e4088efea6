/-
  partitionOrdered at ID, walked. Own text.
-/
import Derived.Test.YbulkdfzsSd
namespace Go.Proofs.Ybulkdfzs.S
open Go.RowKit Go.Proofs.Ybulkdfzs.AR
set_option linter.unusedVariables false
set_option linter.unusedSimpArgs false
set_option maxRecDepth 100000

theorem part_fin {lo hi i j v : Nat} {dk : Nat → Nat} (hv : dk lo = v) (hL : ∀ t, lo < t → t < i → dk t < v) (hR : ∀ t, j < t → t < hi → v ≤ dk t) (hij : j + 1 = i) (hlj : lo ≤ j) :
    (∀ t, lo ≤ t → t < j → sw dk j lo t < sw dk j lo j) ∧ ∀ t, j < t → t < hi → sw dk j lo j ≤ sw dk j lo t := by
  rw [sw_left, hv]
  refine ⟨fun t h1 h2 => ?_, fun t h1 h2 => ?_⟩
  · by_cases e : t = lo
    · rw [e, sw_right]; exact hL j (by omega) (by omega)
    · rw [sw_other _ (by omega) e]; exact hL t (by omega) (by omega)
  · rw [sw_other _ (by omega) (by omega)]; exact hR t h1 h2

set_option maxHeartbeats 8000000 in
theorem part (b C n cap lo hi pv : Nat) (d : Nat → Nat) (w : World) (hr : w.rowIs b 26 C (row d)) (hlo : lo ≤ pv) (hpv : pv < hi) (hhi : hi ≤ n) (hn : n ≤ C) (hC : n ≤ 1000000) :
    Calls Yba.prog 23 #[.slice (some ⟨b, 0, none⟩) n cap, .int .i64 lo, .int .i64 hi, .int .i64 pv] w fun e w' => ∃ (mid : Nat) (p : Bool), e = .returned (.tuple #[.int .i64 mid, .bool p]) ∧ lo ≤ mid ∧ mid < hi ∧
      Left b C lo hi d w w' (fun d' => (∀ t, lo ≤ t → t < mid → d' t < d' mid) ∧ ∀ t, mid < t → t < hi → d' mid ≤ d' t) := by
  go_enter Yba.func23, Yba.ntmps23
  have hc0 : w.cell? ⟨b, lo, none⟩ = some (.int .u32 (d lo)) := hr.cell (by omega)
  have hcp : w.cell? ⟨b, pv, none⟩ = some (.int .u32 (d pv)) := hr.cell (by omega)
  have hf : ∀ t, w.frozen? ⟨b, t, none⟩ = false := fun t => hr.frozen t
  have hln : lo < n := by omega
  have hpn : pv < n := by omega
  obtain ⟨v, hv⟩ : ∃ v, d pv = v := ⟨_, rfl⟩
  have hm1 : Hid (Mi lo hi d (sw d lo pv)) := Mi.sw _ (by omega) (by omega) (by omega) (by omega)
  have hv1 : Hid (sw d lo pv lo = v) := (sw_left _ _ _).trans hv
  have hr1 := hide (row_sw hr lo pv)
  have hb1 := hide (below_sw (Below.refl b w) (Nat.le_refl _) lo pv (.int .u32 (d pv)) (.int .u32 (d lo)))
  clear hv
  replace hr := hide hr
  obtain ⟨dk, hd1⟩ : ∃ d1, sw d lo pv = d1 := ⟨_, rfl⟩
  rw [hd1] at hm1 hv1 hr1
  clear hd1
  go_wp2
  by_cases hpa : lo = pv
  · subst hpa
    clear hlo hpn
    go_region
    all_goals go_wp2
    obtain ⟨i, hi1⟩ : ∃ i, lo + 1 = i := ⟨_, rfl⟩
    obtain ⟨j, hj1⟩ : ∃ j, hi - 1 = j := ⟨_, rfl⟩
    rw [show ((lo : Int) + 1) = (i : Int) by omega, show ((hi : Int) - 1) = (j : Int) by omega]
    have h1 : lo < i := by omega
    have h2 : i ≤ j + 1 := by omega
    have h3 : j < hi := by omega
    have hL : Hid (∀ t, lo < t → t < i → dk t < v) := fun t k1 k2 => by omega
    have hR : Hid (∀ t, j < t → t < hi → v ≤ dk t) := fun t k1 k2 => by omega
    clear hi1 hj1 hc0 hcp hf
    have hrk := hide (World.rowIs.drew hr1.out)
    have hbk := hide (Below.drew hb1.out)
    clear hr1 hb1
    have hmk := hm1.out
    have hvk := hv1
    clear hm1 hv1
    go_loopw [10] (fun vi wr2 => ∃ (i' : Nat), vi = .int .i64 i' ∧ i ≤ i' ∧ i' ≤ j + 1 ∧ wr2.rowIs b 26 C (row dk) ∧ Below b w wr2 ∧ ∀ t, lo < t → t < i' → dk t < v) (fun vi _ => j + 1 - nat vi)
    case atStart => exact ⟨i, rfl, Nat.le_refl _, h2, hrk.out, hbk.out, hL.out⟩
    case round =>
      clear hrk hbk hL
      obtain ⟨i', rfl, g1, g2, hr2, hb2, hL2⟩ := hrel
      replace hL2 := hide hL2
      have hcl : wr.cell? ⟨b, lo, none⟩ = some (.int .u32 (dk lo)) := hr2.cell (by omega)
      replace hr2 := hide hr2
      go_wp2
      by_cases hij : i' ≤ j
      · have hin : i' < n := by omega
        have hci : wr.cell? ⟨b, i', none⟩ = some (.int .u32 (dk i')) := hr2.out.cell (by omega)
        go_quiet (first | (go_at_call 21; refine Calls.quiet_of_same (less _ _ _)))
        go_wp2
        · have hl : dk i' < dk lo := by assumption
          go_roundw
          case rel =>
            refine ⟨i' + 1, by go_num, by omega, by omega, rowIs_drewN hr2.out _, Below_drewN hb2 _, ?_⟩
            intro t k1 k2
            by_cases e : t = i'
            · rw [e, ← hvk.out]; exact hl
            · exact hL2.out t k1 (by omega)
          case measure => simp [nat]; omega
        · have hl : ¬ dk i' < dk lo := by assumption
          have hE1 : Hid (i' ≤ j → dk lo ≤ dk i') := fun _ => by omega
          clear hcl hci
          obtain ⟨w2, hw2⟩ : ∃ w2, wr.drewN nq = w2 := ⟨_, rfl⟩
          rw [hw2]
          replace hr2 : Hid (w2.rowIs b 26 C (row dk)) := hw2 ▸ rowIs_drewN hr2.out nq
          replace hb2 : Below b w w2 := hw2 ▸ Below_drewN hb2 nq
          clear hw2
          go_loopw [11] (fun vj wr2 => ∃ (j' : Nat), vj = .int .i64 j' ∧ i' ≤ j' + 1 ∧ j' ≤ j ∧ wr2.rowIs b 26 C (row dk) ∧ Below b w wr2 ∧ ∀ t, j' < t → t < hi → v ≤ dk t) (fun vj _ => nat vj)
          case atStart => exact ⟨j, rfl, by omega, Nat.le_refl _, hr2.out, hb2, hR.out⟩
          case round =>
            clear hr2 hb2
            obtain ⟨j', rfl, g3, g4, hr3, hb3, hR2⟩ := hrel
            replace hR2 := hide hR2
            have hcl : wr.cell? ⟨b, lo, none⟩ = some (.int .u32 (dk lo)) := hr3.cell (by omega)
            have hcj : wr.cell? ⟨b, j', none⟩ = some (.int .u32 (dk j')) := hr3.cell (by omega)
            replace hr3 := hide hr3
            have hjn : j' < n := by omega
            go_wp2
            by_cases hij : i' ≤ j'
            · go_quiet (first | (go_at_call 21; refine Calls.quiet_of_same (less _ _ _)))
              go_wp2
              · have hl : ¬ dk j' < dk lo := by simpa using ‹(!decide (dk j' < dk lo)) = true›
                go_roundw
                case rel =>
                  refine ⟨j' - 1, by congr 1; omega, by omega, by omega, rowIs_drewN hr3.out _, Below_drewN hb3 _, ?_⟩
                  intro t k1 k2
                  by_cases e : t = j'
                  · rw [e, ← hvk.out]; omega
                  · exact hR2.out t (by omega) k2
                case measure => simp [nat]; omega
              · have hl : dk j' < dk lo := by
                  first
                    | simpa using ‹(!decide (dk j' < dk lo)) = false›
                    | simpa using ‹¬ (!decide (dk j' < dk lo)) = true›
                have hE2 : Hid (i' ≤ j' → dk j' < dk lo) := fun _ => hl
                clear hcl hcj hl
                obtain ⟨w4, hw4⟩ : ∃ w4, wr.drewN nq = w4 := ⟨_, rfl⟩
                rw [hw4]
                have hr4 : Hid (w4.rowIs b 26 C (row dk)) := hw4 ▸ rowIs_drewN hr3.out nq
                have hb4 : Below b w w4 := hw4 ▸ Below_drewN hb3 nq
                have hlt2 : i' < j' := by
                  rcases Nat.lt_or_ge i' j' with h | h
                  · exact h
                  · exfalso
                    have he : i' = j' := by omega
                    have e1 := hE1.out (by omega)
                    have e2 := hE2.out (by omega)
                    rw [he] at e1
                    omega
                have hci4 : w4.cell? ⟨b, i', none⟩ = some (.int .u32 (dk i')) := hr4.out.cell (by omega)
                have hcj4 : w4.cell? ⟨b, j', none⟩ = some (.int .u32 (dk j')) := hr4.out.cell (by omega)
                have hf4 : ∀ t, w4.frozen? ⟨b, t, none⟩ = false := fun t => hr4.out.frozen t
                have hin : i' < n := by omega
                have hjn : j' < n := by omega
                clear hw4 hr3 hb3
                go_region
                all_goals go_wp2
                go_loopw [10, 11] (fun vi vj wr => ∃ (i j : Nat) (dk : Nat → Nat), vi = .int .i64 i ∧ vj = .int .i64 j ∧ lo < i ∧ i ≤ j + 1 ∧ j < hi ∧ wr.rowIs b 26 C (row dk) ∧ Below b w wr ∧ Mi lo hi d dk ∧ dk lo = v ∧ (∀ t, lo < t → t < i → dk t < v) ∧ (∀ t, j < t → t < hi → v ≤ dk t)) (fun vi vj _ => nat vj + 1 - nat vi)
                case atStart =>
                  refine ⟨i' + 1, j' - 1, sw dk i' j', by go_num, by congr 1; omega, by omega, by omega, by omega, row_sw (rowIs_drewN hr4.out _) i' j', below_sw (Below_drewN hb4 _) (Nat.le_refl _) _ _ _ _, hmk.trans (Mi.sw _ (by omega) (by omega) (by omega) (by omega)), (sw_other _ (by omega) (by omega)).trans hvk.out, ?_, ?_⟩
                  · intro t k1 k2
                    by_cases e : t = i'
                    · rw [e, sw_left]; have e2 := hE2.out (by omega); have := hvk.out; omega
                    · rw [sw_other _ e (by omega)]; exact hL2.out t k1 (by omega)
                  · intro t k1 k2
                    by_cases e : t = j'
                    · rw [e, sw_right]; have e1 := hE1.out (by omega); have := hvk.out; omega
                    · rw [sw_other _ (by omega) e]; exact hR2.out t (by omega) k2
                case round =>
                  clear hr4 hb4 hci4 hcj4 hf4 hmk hvk hR hE1 hE2 hL2 hR2
                  clear g3 g4 g1 g2 hij h1 h2 h3 hjn hlt2
                  obtain ⟨i, j, dk, rfl, rfl, h1, h2, h3, hrk, hbk, hmk, hvk, hL, hR⟩ := hrel
                  replace hL := hide hL
                  replace hR := hide hR
                  replace hvk := hide hvk
                  replace hrk := hide hrk
                  replace hbk := hide hbk
                  go_wp2
                  go_loopw [10] (fun vi wr2 => ∃ (i' : Nat), vi = .int .i64 i' ∧ i ≤ i' ∧ i' ≤ j + 1 ∧ wr2.rowIs b 26 C (row dk) ∧ Below b w wr2 ∧ ∀ t, lo < t → t < i' → dk t < v) (fun vi _ => j + 1 - nat vi)
                  case atStart => exact ⟨i, rfl, Nat.le_refl _, h2, hrk.out, hbk.out, hL.out⟩
                  case round =>
                    clear hrk hbk hL
                    obtain ⟨i', rfl, g1, g2, hr2, hb2, hL2⟩ := hrel
                    replace hL2 := hide hL2
                    have hcl : wr.cell? ⟨b, lo, none⟩ = some (.int .u32 (dk lo)) := hr2.cell (by omega)
                    replace hr2 := hide hr2
                    go_wp2
                    by_cases hij : i' ≤ j
                    · have hin : i' < n := by omega
                      have hci : wr.cell? ⟨b, i', none⟩ = some (.int .u32 (dk i')) := hr2.out.cell (by omega)
                      go_quiet (first | (go_at_call 21; refine Calls.quiet_of_same (less _ _ _)))
                      go_wp2
                      · have hl : dk i' < dk lo := by assumption
                        go_roundw
                        case rel =>
                          refine ⟨i' + 1, by go_num, by omega, by omega, rowIs_drewN hr2.out _, Below_drewN hb2 _, ?_⟩
                          intro t k1 k2
                          by_cases e : t = i'
                          · rw [e, ← hvk.out]; exact hl
                          · exact hL2.out t k1 (by omega)
                        case measure => simp [nat]; omega
                      · have hl : ¬ dk i' < dk lo := by assumption
                        have hE1 : Hid (i' ≤ j → dk lo ≤ dk i') := fun _ => by omega
                        clear hcl hci
                        obtain ⟨w2, hw2⟩ : ∃ w2, wr.drewN nq = w2 := ⟨_, rfl⟩
                        rw [hw2]
                        replace hr2 : Hid (w2.rowIs b 26 C (row dk)) := hw2 ▸ rowIs_drewN hr2.out nq
                        replace hb2 : Below b w w2 := hw2 ▸ Below_drewN hb2 nq
                        clear hw2
                        go_loopw [11] (fun vj wr2 => ∃ (j' : Nat), vj = .int .i64 j' ∧ i' ≤ j' + 1 ∧ j' ≤ j ∧ wr2.rowIs b 26 C (row dk) ∧ Below b w wr2 ∧ ∀ t, j' < t → t < hi → v ≤ dk t) (fun vj _ => nat vj)
                        case atStart => exact ⟨j, rfl, by omega, Nat.le_refl _, hr2.out, hb2, hR.out⟩
                        case round =>
                          clear hr2 hb2
                          obtain ⟨j', rfl, g3, g4, hr3, hb3, hR2⟩ := hrel
                          replace hR2 := hide hR2
                          have hcl : wr.cell? ⟨b, lo, none⟩ = some (.int .u32 (dk lo)) := hr3.cell (by omega)
                          have hcj : wr.cell? ⟨b, j', none⟩ = some (.int .u32 (dk j')) := hr3.cell (by omega)
                          replace hr3 := hide hr3
                          have hjn : j' < n := by omega
                          go_wp2
                          by_cases hij : i' ≤ j'
                          · go_quiet (first | (go_at_call 21; refine Calls.quiet_of_same (less _ _ _)))
                            go_wp2
                            · have hl : ¬ dk j' < dk lo := by simpa using ‹(!decide (dk j' < dk lo)) = true›
                              go_roundw
                              case rel =>
                                refine ⟨j' - 1, by congr 1; omega, by omega, by omega, rowIs_drewN hr3.out _, Below_drewN hb3 _, ?_⟩
                                intro t k1 k2
                                by_cases e : t = j'
                                · rw [e, ← hvk.out]; omega
                                · exact hR2.out t (by omega) k2
                              case measure => simp [nat]; omega
                            · have hl : dk j' < dk lo := by
                                first
                                  | simpa using ‹(!decide (dk j' < dk lo)) = false›
                                  | simpa using ‹¬ (!decide (dk j' < dk lo)) = true›
                              have hE2 : Hid (i' ≤ j' → dk j' < dk lo) := fun _ => hl
                              clear hcl hcj hl
                              obtain ⟨w4, hw4⟩ : ∃ w4, wr.drewN nq = w4 := ⟨_, rfl⟩
                              rw [hw4]
                              have hr4 : Hid (w4.rowIs b 26 C (row dk)) := hw4 ▸ rowIs_drewN hr3.out nq
                              have hb4 : Below b w w4 := hw4 ▸ Below_drewN hb3 nq
                              have hlt2 : i' < j' := by
                                rcases Nat.lt_or_ge i' j' with h | h
                                · exact h
                                · exfalso
                                  have he : i' = j' := by omega
                                  have e1 := hE1.out (by omega)
                                  have e2 := hE2.out (by omega)
                                  rw [he] at e1
                                  omega
                              have hci4 : w4.cell? ⟨b, i', none⟩ = some (.int .u32 (dk i')) := hr4.out.cell (by omega)
                              have hcj4 : w4.cell? ⟨b, j', none⟩ = some (.int .u32 (dk j')) := hr4.out.cell (by omega)
                              have hf4 : ∀ t, w4.frozen? ⟨b, t, none⟩ = false := fun t => hr4.out.frozen t
                              have hin : i' < n := by omega
                              have hjn : j' < n := by omega
                              clear hw4 hr3 hb3
                              go_region
                              all_goals go_wp2
                              go_roundw
                              case rel =>
                                refine ⟨i' + 1, j' - 1, sw dk i' j', by go_num, by congr 1; omega, by omega, by omega, by omega, row_sw (rowIs_drewN hr4.out _) i' j', below_sw (Below_drewN hb4 _) (Nat.le_refl _) _ _ _ _, hmk.trans (Mi.sw _ (by omega) (by omega) (by omega) (by omega)), (sw_other _ (by omega) (by omega)).trans hvk.out, ?_, ?_⟩
                                · intro t k1 k2
                                  by_cases e : t = i'
                                  · rw [e, sw_left]; have e2 := hE2.out (by omega); have := hvk.out; omega
                                  · rw [sw_other _ e (by omega)]; exact hL2.out t k1 (by omega)
                                · intro t k1 k2
                                  by_cases e : t = j'
                                  · rw [e, sw_right]; have e1 := hE1.out (by omega); have := hvk.out; omega
                                  · rw [sw_other _ (by omega) e]; exact hR2.out t (by omega) k2
                              case measure => simp [nat]; omega
                          · have hE2 : Hid (i' ≤ j' → dk j' < dk lo) := fun h => absurd h hij
                            go_quiet (first | (go_at_call 21; refine Calls.quiet_of_same (less _ _ _)))
                            go_wp2
                            clear hcl hcj
                            obtain ⟨w4, hw4⟩ : ∃ w4, wr.drewN nq = w4 := ⟨_, rfl⟩
                            rw [hw4]
                            have hr4 : Hid (w4.rowIs b 26 C (row dk)) := hw4 ▸ rowIs_drewN hr3.out nq
                            have hb4 : Below b w w4 := hw4 ▸ Below_drewN hb3 nq
                            have hcj4 : w4.cell? ⟨b, j', none⟩ = some (.int .u32 (dk j')) := hr4.out.cell (by omega)
                            have hcl4 : w4.cell? ⟨b, lo, none⟩ = some (.int .u32 (dk lo)) := hr4.out.cell (by omega)
                            have hf4 : ∀ t, w4.frozen? ⟨b, t, none⟩ = false := fun t => hr4.out.frozen t
                            have hjn : j' < n := by omega
                            have hgt : j' + 1 = i' := by omega
                            clear hw4 hr3 hb3
                            by_cases hjl : lo = j'
                            · subst hjl
                              go_region
                              all_goals go_wp2
                              go_ret2
                              exact ⟨lo, false, rfl, by omega, by omega, below_sw (Below_drewN hb4 _) (Nat.le_refl _) _ _ _ _, sw dk lo lo, row_sw (rowIs_drewN hr4.out _) lo lo, hmk.trans (Mi.sw _ (by omega) (by omega) (by omega) (by omega)), part_fin hvk.out hL2.out hR2.out (by omega) (by omega)⟩
                            · have hjl' : lo < j' := by omega
                              clear hjl
                              go_region
                              all_goals go_wp2
                              go_ret2
                              exact ⟨j', false, rfl, by omega, by omega, below_sw (Below_drewN hb4 _) (Nat.le_refl _) _ _ _ _, sw dk j' lo, row_sw (rowIs_drewN hr4.out _) j' lo, hmk.trans (Mi.sw _ (by omega) (by omega) (by omega) (by omega)), part_fin hvk.out hL2.out hR2.out (by omega) (by omega)⟩
                    · have hE1 : Hid (i' ≤ j → dk lo ≤ dk i') := fun h => absurd h hij
                      go_quiet (first | (go_at_call 21; refine Calls.quiet_of_same (less _ _ _)))
                      go_wp2
                      clear hcl
                      obtain ⟨w2, hw2⟩ : ∃ w2, wr.drewN nq = w2 := ⟨_, rfl⟩
                      rw [hw2]
                      replace hr2 : Hid (w2.rowIs b 26 C (row dk)) := hw2 ▸ rowIs_drewN hr2.out nq
                      replace hb2 : Below b w w2 := hw2 ▸ Below_drewN hb2 nq
                      clear hw2
                      go_loopw [11] (fun vj wr2 => ∃ (j' : Nat), vj = .int .i64 j' ∧ i' ≤ j' + 1 ∧ j' ≤ j ∧ wr2.rowIs b 26 C (row dk) ∧ Below b w wr2 ∧ ∀ t, j' < t → t < hi → v ≤ dk t) (fun vj _ => nat vj)
                      case atStart => exact ⟨j, rfl, by omega, Nat.le_refl _, hr2.out, hb2, hR.out⟩
                      case round =>
                        clear hr2 hb2
                        obtain ⟨j', rfl, g3, g4, hr3, hb3, hR2⟩ := hrel
                        replace hR2 := hide hR2
                        have hcl : wr.cell? ⟨b, lo, none⟩ = some (.int .u32 (dk lo)) := hr3.cell (by omega)
                        have hcj : wr.cell? ⟨b, j', none⟩ = some (.int .u32 (dk j')) := hr3.cell (by omega)
                        replace hr3 := hide hr3
                        have hjn : j' < n := by omega
                        go_wp2
                        by_cases hij : i' ≤ j'
                        · exfalso; omega
                        · have hE2 : Hid (i' ≤ j' → dk j' < dk lo) := fun h => absurd h hij
                          go_quiet (first | (go_at_call 21; refine Calls.quiet_of_same (less _ _ _)))
                          go_wp2
                          clear hcl hcj
                          obtain ⟨w4, hw4⟩ : ∃ w4, wr.drewN nq = w4 := ⟨_, rfl⟩
                          rw [hw4]
                          have hr4 : Hid (w4.rowIs b 26 C (row dk)) := hw4 ▸ rowIs_drewN hr3.out nq
                          have hb4 : Below b w w4 := hw4 ▸ Below_drewN hb3 nq
                          have hcj4 : w4.cell? ⟨b, j', none⟩ = some (.int .u32 (dk j')) := hr4.out.cell (by omega)
                          have hcl4 : w4.cell? ⟨b, lo, none⟩ = some (.int .u32 (dk lo)) := hr4.out.cell (by omega)
                          have hf4 : ∀ t, w4.frozen? ⟨b, t, none⟩ = false := fun t => hr4.out.frozen t
                          have hjn : j' < n := by omega
                          have hgt : j' + 1 = i' := by omega
                          clear hw4 hr3 hb3
                          by_cases hjl : lo = j'
                          · subst hjl
                            go_region
                            all_goals go_wp2
                            go_ret2
                            exact ⟨lo, false, rfl, by omega, by omega, below_sw (Below_drewN hb4 _) (Nat.le_refl _) _ _ _ _, sw dk lo lo, row_sw (rowIs_drewN hr4.out _) lo lo, hmk.trans (Mi.sw _ (by omega) (by omega) (by omega) (by omega)), part_fin hvk.out hL2.out hR2.out (by omega) (by omega)⟩
                          · have hjl' : lo < j' := by omega
                            clear hjl
                            go_region
                            all_goals go_wp2
                            go_ret2
                            exact ⟨j', false, rfl, by omega, by omega, below_sw (Below_drewN hb4 _) (Nat.le_refl _) _ _ _ _, sw dk j' lo, row_sw (rowIs_drewN hr4.out _) j' lo, hmk.trans (Mi.sw _ (by omega) (by omega) (by omega) (by omega)), part_fin hvk.out hL2.out hR2.out (by omega) (by omega)⟩
            · have hE2 : Hid (i' ≤ j' → dk j' < dk lo) := fun h => absurd h hij
              go_quiet (first | (go_at_call 21; refine Calls.quiet_of_same (less _ _ _)))
              go_wp2
              clear hcl hcj
              obtain ⟨w4, hw4⟩ : ∃ w4, wr.drewN nq = w4 := ⟨_, rfl⟩
              rw [hw4]
              have hr4 : Hid (w4.rowIs b 26 C (row dk)) := hw4 ▸ rowIs_drewN hr3.out nq
              have hb4 : Below b w w4 := hw4 ▸ Below_drewN hb3 nq
              have hcj4 : w4.cell? ⟨b, j', none⟩ = some (.int .u32 (dk j')) := hr4.out.cell (by omega)
              have hcl4 : w4.cell? ⟨b, lo, none⟩ = some (.int .u32 (dk lo)) := hr4.out.cell (by omega)
              have hf4 : ∀ t, w4.frozen? ⟨b, t, none⟩ = false := fun t => hr4.out.frozen t
              have hjn : j' < n := by omega
              have hgt : j' + 1 = i' := by omega
              clear hw4 hr3 hb3
              by_cases hjl : lo = j'
              · subst hjl
                go_region
                all_goals go_wp2
                go_ret2
                exact ⟨lo, true, rfl, by omega, by omega, below_sw (Below_drewN hb4 _) (Nat.le_refl _) _ _ _ _, sw dk lo lo, row_sw (rowIs_drewN hr4.out _) lo lo, hmk.trans (Mi.sw _ (by omega) (by omega) (by omega) (by omega)), part_fin hvk.out hL2.out hR2.out (by omega) (by omega)⟩
              · have hjl' : lo < j' := by omega
                clear hjl
                go_region
                all_goals go_wp2
                go_ret2
                exact ⟨j', true, rfl, by omega, by omega, below_sw (Below_drewN hb4 _) (Nat.le_refl _) _ _ _ _, sw dk j' lo, row_sw (rowIs_drewN hr4.out _) j' lo, hmk.trans (Mi.sw _ (by omega) (by omega) (by omega) (by omega)), part_fin hvk.out hL2.out hR2.out (by omega) (by omega)⟩
      · have hE1 : Hid (i' ≤ j → dk lo ≤ dk i') := fun h => absurd h hij
        go_quiet (first | (go_at_call 21; refine Calls.quiet_of_same (less _ _ _)))
        go_wp2
        clear hcl
        obtain ⟨w2, hw2⟩ : ∃ w2, wr.drewN nq = w2 := ⟨_, rfl⟩
        rw [hw2]
        replace hr2 : Hid (w2.rowIs b 26 C (row dk)) := hw2 ▸ rowIs_drewN hr2.out nq
        replace hb2 : Below b w w2 := hw2 ▸ Below_drewN hb2 nq
        clear hw2
        go_loopw [11] (fun vj wr2 => ∃ (j' : Nat), vj = .int .i64 j' ∧ i' ≤ j' + 1 ∧ j' ≤ j ∧ wr2.rowIs b 26 C (row dk) ∧ Below b w wr2 ∧ ∀ t, j' < t → t < hi → v ≤ dk t) (fun vj _ => nat vj)
        case atStart => exact ⟨j, rfl, by omega, Nat.le_refl _, hr2.out, hb2, hR.out⟩
        case round =>
          clear hr2 hb2
          obtain ⟨j', rfl, g3, g4, hr3, hb3, hR2⟩ := hrel
          replace hR2 := hide hR2
          have hcl : wr.cell? ⟨b, lo, none⟩ = some (.int .u32 (dk lo)) := hr3.cell (by omega)
          have hcj : wr.cell? ⟨b, j', none⟩ = some (.int .u32 (dk j')) := hr3.cell (by omega)
          replace hr3 := hide hr3
          have hjn : j' < n := by omega
          go_wp2
          by_cases hij : i' ≤ j'
          · exfalso; omega
          · have hE2 : Hid (i' ≤ j' → dk j' < dk lo) := fun h => absurd h hij
            go_quiet (first | (go_at_call 21; refine Calls.quiet_of_same (less _ _ _)))
            go_wp2
            clear hcl hcj
            obtain ⟨w4, hw4⟩ : ∃ w4, wr.drewN nq = w4 := ⟨_, rfl⟩
            rw [hw4]
            have hr4 : Hid (w4.rowIs b 26 C (row dk)) := hw4 ▸ rowIs_drewN hr3.out nq
            have hb4 : Below b w w4 := hw4 ▸ Below_drewN hb3 nq
            have hcj4 : w4.cell? ⟨b, j', none⟩ = some (.int .u32 (dk j')) := hr4.out.cell (by omega)
            have hcl4 : w4.cell? ⟨b, lo, none⟩ = some (.int .u32 (dk lo)) := hr4.out.cell (by omega)
            have hf4 : ∀ t, w4.frozen? ⟨b, t, none⟩ = false := fun t => hr4.out.frozen t
            have hjn : j' < n := by omega
            have hgt : j' + 1 = i' := by omega
            clear hw4 hr3 hb3
            by_cases hjl : lo = j'
            · subst hjl
              go_region
              all_goals go_wp2
              go_ret2
              exact ⟨lo, true, rfl, by omega, by omega, below_sw (Below_drewN hb4 _) (Nat.le_refl _) _ _ _ _, sw dk lo lo, row_sw (rowIs_drewN hr4.out _) lo lo, hmk.trans (Mi.sw _ (by omega) (by omega) (by omega) (by omega)), part_fin hvk.out hL2.out hR2.out (by omega) (by omega)⟩
            · have hjl' : lo < j' := by omega
              clear hjl
              go_region
              all_goals go_wp2
              go_ret2
              exact ⟨j', true, rfl, by omega, by omega, below_sw (Below_drewN hb4 _) (Nat.le_refl _) _ _ _ _, sw dk j' lo, row_sw (rowIs_drewN hr4.out _) j' lo, hmk.trans (Mi.sw _ (by omega) (by omega) (by omega) (by omega)), part_fin hvk.out hL2.out hR2.out (by omega) (by omega)⟩
  · have hpa' : lo < pv := by omega
    clear hlo hpa
    go_region
    all_goals go_wp2
    obtain ⟨i, hi1⟩ : ∃ i, lo + 1 = i := ⟨_, rfl⟩
    obtain ⟨j, hj1⟩ : ∃ j, hi - 1 = j := ⟨_, rfl⟩
    rw [show ((lo : Int) + 1) = (i : Int) by omega, show ((hi : Int) - 1) = (j : Int) by omega]
    have h1 : lo < i := by omega
    have h2 : i ≤ j + 1 := by omega
    have h3 : j < hi := by omega
    have hL : Hid (∀ t, lo < t → t < i → dk t < v) := fun t k1 k2 => by omega
    have hR : Hid (∀ t, j < t → t < hi → v ≤ dk t) := fun t k1 k2 => by omega
    clear hi1 hj1 hc0 hcp hf
    have hrk := hide (World.rowIs.drew hr1.out)
    have hbk := hide (Below.drew hb1.out)
    clear hr1 hb1
    have hmk := hm1.out
    have hvk := hv1
    clear hm1 hv1
    go_loopw [10] (fun vi wr2 => ∃ (i' : Nat), vi = .int .i64 i' ∧ i ≤ i' ∧ i' ≤ j + 1 ∧ wr2.rowIs b 26 C (row dk) ∧ Below b w wr2 ∧ ∀ t, lo < t → t < i' → dk t < v) (fun vi _ => j + 1 - nat vi)
    case atStart => exact ⟨i, rfl, Nat.le_refl _, h2, hrk.out, hbk.out, hL.out⟩
    case round =>
      clear hrk hbk hL
      obtain ⟨i', rfl, g1, g2, hr2, hb2, hL2⟩ := hrel
      replace hL2 := hide hL2
      have hcl : wr.cell? ⟨b, lo, none⟩ = some (.int .u32 (dk lo)) := hr2.cell (by omega)
      replace hr2 := hide hr2
      go_wp2
      by_cases hij : i' ≤ j
      · have hin : i' < n := by omega
        have hci : wr.cell? ⟨b, i', none⟩ = some (.int .u32 (dk i')) := hr2.out.cell (by omega)
        go_quiet (first | (go_at_call 21; refine Calls.quiet_of_same (less _ _ _)))
        go_wp2
        · have hl : dk i' < dk lo := by assumption
          go_roundw
          case rel =>
            refine ⟨i' + 1, by go_num, by omega, by omega, rowIs_drewN hr2.out _, Below_drewN hb2 _, ?_⟩
            intro t k1 k2
            by_cases e : t = i'
            · rw [e, ← hvk.out]; exact hl
            · exact hL2.out t k1 (by omega)
          case measure => simp [nat]; omega
        · have hl : ¬ dk i' < dk lo := by assumption
          have hE1 : Hid (i' ≤ j → dk lo ≤ dk i') := fun _ => by omega
          clear hcl hci
          obtain ⟨w2, hw2⟩ : ∃ w2, wr.drewN nq = w2 := ⟨_, rfl⟩
          rw [hw2]
          replace hr2 : Hid (w2.rowIs b 26 C (row dk)) := hw2 ▸ rowIs_drewN hr2.out nq
          replace hb2 : Below b w w2 := hw2 ▸ Below_drewN hb2 nq
          clear hw2
          go_loopw [11] (fun vj wr2 => ∃ (j' : Nat), vj = .int .i64 j' ∧ i' ≤ j' + 1 ∧ j' ≤ j ∧ wr2.rowIs b 26 C (row dk) ∧ Below b w wr2 ∧ ∀ t, j' < t → t < hi → v ≤ dk t) (fun vj _ => nat vj)
          case atStart => exact ⟨j, rfl, by omega, Nat.le_refl _, hr2.out, hb2, hR.out⟩
          case round =>
            clear hr2 hb2
            obtain ⟨j', rfl, g3, g4, hr3, hb3, hR2⟩ := hrel
            replace hR2 := hide hR2
            have hcl : wr.cell? ⟨b, lo, none⟩ = some (.int .u32 (dk lo)) := hr3.cell (by omega)
            have hcj : wr.cell? ⟨b, j', none⟩ = some (.int .u32 (dk j')) := hr3.cell (by omega)
            replace hr3 := hide hr3
            have hjn : j' < n := by omega
            go_wp2
            by_cases hij : i' ≤ j'
            · go_quiet (first | (go_at_call 21; refine Calls.quiet_of_same (less _ _ _)))
              go_wp2
              · have hl : ¬ dk j' < dk lo := by simpa using ‹(!decide (dk j' < dk lo)) = true›
                go_roundw
                case rel =>
                  refine ⟨j' - 1, by congr 1; omega, by omega, by omega, rowIs_drewN hr3.out _, Below_drewN hb3 _, ?_⟩
                  intro t k1 k2
                  by_cases e : t = j'
                  · rw [e, ← hvk.out]; omega
                  · exact hR2.out t (by omega) k2
                case measure => simp [nat]; omega
              · have hl : dk j' < dk lo := by
                  first
                    | simpa using ‹(!decide (dk j' < dk lo)) = false›
                    | simpa using ‹¬ (!decide (dk j' < dk lo)) = true›
                have hE2 : Hid (i' ≤ j' → dk j' < dk lo) := fun _ => hl
                clear hcl hcj hl
                obtain ⟨w4, hw4⟩ : ∃ w4, wr.drewN nq = w4 := ⟨_, rfl⟩
                rw [hw4]
                have hr4 : Hid (w4.rowIs b 26 C (row dk)) := hw4 ▸ rowIs_drewN hr3.out nq
                have hb4 : Below b w w4 := hw4 ▸ Below_drewN hb3 nq
                have hlt2 : i' < j' := by
                  rcases Nat.lt_or_ge i' j' with h | h
                  · exact h
                  · exfalso
                    have he : i' = j' := by omega
                    have e1 := hE1.out (by omega)
                    have e2 := hE2.out (by omega)
                    rw [he] at e1
                    omega
                have hci4 : w4.cell? ⟨b, i', none⟩ = some (.int .u32 (dk i')) := hr4.out.cell (by omega)
                have hcj4 : w4.cell? ⟨b, j', none⟩ = some (.int .u32 (dk j')) := hr4.out.cell (by omega)
                have hf4 : ∀ t, w4.frozen? ⟨b, t, none⟩ = false := fun t => hr4.out.frozen t
                have hin : i' < n := by omega
                have hjn : j' < n := by omega
                clear hw4 hr3 hb3
                go_region
                all_goals go_wp2
                go_loopw [10, 11] (fun vi vj wr => ∃ (i j : Nat) (dk : Nat → Nat), vi = .int .i64 i ∧ vj = .int .i64 j ∧ lo < i ∧ i ≤ j + 1 ∧ j < hi ∧ wr.rowIs b 26 C (row dk) ∧ Below b w wr ∧ Mi lo hi d dk ∧ dk lo = v ∧ (∀ t, lo < t → t < i → dk t < v) ∧ (∀ t, j < t → t < hi → v ≤ dk t)) (fun vi vj _ => nat vj + 1 - nat vi)
                case atStart =>
                  refine ⟨i' + 1, j' - 1, sw dk i' j', by go_num, by congr 1; omega, by omega, by omega, by omega, row_sw (rowIs_drewN hr4.out _) i' j', below_sw (Below_drewN hb4 _) (Nat.le_refl _) _ _ _ _, hmk.trans (Mi.sw _ (by omega) (by omega) (by omega) (by omega)), (sw_other _ (by omega) (by omega)).trans hvk.out, ?_, ?_⟩
                  · intro t k1 k2
                    by_cases e : t = i'
                    · rw [e, sw_left]; have e2 := hE2.out (by omega); have := hvk.out; omega
                    · rw [sw_other _ e (by omega)]; exact hL2.out t k1 (by omega)
                  · intro t k1 k2
                    by_cases e : t = j'
                    · rw [e, sw_right]; have e1 := hE1.out (by omega); have := hvk.out; omega
                    · rw [sw_other _ (by omega) e]; exact hR2.out t (by omega) k2
                case round =>
                  clear hr4 hb4 hci4 hcj4 hf4 hmk hvk hR hE1 hE2 hL2 hR2
                  clear g3 g4 g1 g2 hij h1 h2 h3 hjn hlt2
                  obtain ⟨i, j, dk, rfl, rfl, h1, h2, h3, hrk, hbk, hmk, hvk, hL, hR⟩ := hrel
                  replace hL := hide hL
                  replace hR := hide hR
                  replace hvk := hide hvk
                  replace hrk := hide hrk
                  replace hbk := hide hbk
                  go_wp2
                  go_loopw [10] (fun vi wr2 => ∃ (i' : Nat), vi = .int .i64 i' ∧ i ≤ i' ∧ i' ≤ j + 1 ∧ wr2.rowIs b 26 C (row dk) ∧ Below b w wr2 ∧ ∀ t, lo < t → t < i' → dk t < v) (fun vi _ => j + 1 - nat vi)
                  case atStart => exact ⟨i, rfl, Nat.le_refl _, h2, hrk.out, hbk.out, hL.out⟩
                  case round =>
                    clear hrk hbk hL
                    obtain ⟨i', rfl, g1, g2, hr2, hb2, hL2⟩ := hrel
                    replace hL2 := hide hL2
                    have hcl : wr.cell? ⟨b, lo, none⟩ = some (.int .u32 (dk lo)) := hr2.cell (by omega)
                    replace hr2 := hide hr2
                    go_wp2
                    by_cases hij : i' ≤ j
                    · have hin : i' < n := by omega
                      have hci : wr.cell? ⟨b, i', none⟩ = some (.int .u32 (dk i')) := hr2.out.cell (by omega)
                      go_quiet (first | (go_at_call 21; refine Calls.quiet_of_same (less _ _ _)))
                      go_wp2
                      · have hl : dk i' < dk lo := by assumption
                        go_roundw
                        case rel =>
                          refine ⟨i' + 1, by go_num, by omega, by omega, rowIs_drewN hr2.out _, Below_drewN hb2 _, ?_⟩
                          intro t k1 k2
                          by_cases e : t = i'
                          · rw [e, ← hvk.out]; exact hl
                          · exact hL2.out t k1 (by omega)
                        case measure => simp [nat]; omega
                      · have hl : ¬ dk i' < dk lo := by assumption
                        have hE1 : Hid (i' ≤ j → dk lo ≤ dk i') := fun _ => by omega
                        clear hcl hci
                        obtain ⟨w2, hw2⟩ : ∃ w2, wr.drewN nq = w2 := ⟨_, rfl⟩
                        rw [hw2]
                        replace hr2 : Hid (w2.rowIs b 26 C (row dk)) := hw2 ▸ rowIs_drewN hr2.out nq
                        replace hb2 : Below b w w2 := hw2 ▸ Below_drewN hb2 nq
                        clear hw2
                        go_loopw [11] (fun vj wr2 => ∃ (j' : Nat), vj = .int .i64 j' ∧ i' ≤ j' + 1 ∧ j' ≤ j ∧ wr2.rowIs b 26 C (row dk) ∧ Below b w wr2 ∧ ∀ t, j' < t → t < hi → v ≤ dk t) (fun vj _ => nat vj)
                        case atStart => exact ⟨j, rfl, by omega, Nat.le_refl _, hr2.out, hb2, hR.out⟩
                        case round =>
                          clear hr2 hb2
                          obtain ⟨j', rfl, g3, g4, hr3, hb3, hR2⟩ := hrel
                          replace hR2 := hide hR2
                          have hcl : wr.cell? ⟨b, lo, none⟩ = some (.int .u32 (dk lo)) := hr3.cell (by omega)
                          have hcj : wr.cell? ⟨b, j', none⟩ = some (.int .u32 (dk j')) := hr3.cell (by omega)
                          replace hr3 := hide hr3
                          have hjn : j' < n := by omega
                          go_wp2
                          by_cases hij : i' ≤ j'
                          · go_quiet (first | (go_at_call 21; refine Calls.quiet_of_same (less _ _ _)))
                            go_wp2
                            · have hl : ¬ dk j' < dk lo := by simpa using ‹(!decide (dk j' < dk lo)) = true›
                              go_roundw
                              case rel =>
                                refine ⟨j' - 1, by congr 1; omega, by omega, by omega, rowIs_drewN hr3.out _, Below_drewN hb3 _, ?_⟩
                                intro t k1 k2
                                by_cases e : t = j'
                                · rw [e, ← hvk.out]; omega
                                · exact hR2.out t (by omega) k2
                              case measure => simp [nat]; omega
                            · have hl : dk j' < dk lo := by
                                first
                                  | simpa using ‹(!decide (dk j' < dk lo)) = false›
                                  | simpa using ‹¬ (!decide (dk j' < dk lo)) = true›
                              have hE2 : Hid (i' ≤ j' → dk j' < dk lo) := fun _ => hl
                              clear hcl hcj hl
                              obtain ⟨w4, hw4⟩ : ∃ w4, wr.drewN nq = w4 := ⟨_, rfl⟩
                              rw [hw4]
                              have hr4 : Hid (w4.rowIs b 26 C (row dk)) := hw4 ▸ rowIs_drewN hr3.out nq
                              have hb4 : Below b w w4 := hw4 ▸ Below_drewN hb3 nq
                              have hlt2 : i' < j' := by
                                rcases Nat.lt_or_ge i' j' with h | h
                                · exact h
                                · exfalso
                                  have he : i' = j' := by omega
                                  have e1 := hE1.out (by omega)
                                  have e2 := hE2.out (by omega)
                                  rw [he] at e1
                                  omega
                              have hci4 : w4.cell? ⟨b, i', none⟩ = some (.int .u32 (dk i')) := hr4.out.cell (by omega)
                              have hcj4 : w4.cell? ⟨b, j', none⟩ = some (.int .u32 (dk j')) := hr4.out.cell (by omega)
                              have hf4 : ∀ t, w4.frozen? ⟨b, t, none⟩ = false := fun t => hr4.out.frozen t
                              have hin : i' < n := by omega
                              have hjn : j' < n := by omega
                              clear hw4 hr3 hb3
                              go_region
                              all_goals go_wp2
                              go_roundw
                              case rel =>
                                refine ⟨i' + 1, j' - 1, sw dk i' j', by go_num, by congr 1; omega, by omega, by omega, by omega, row_sw (rowIs_drewN hr4.out _) i' j', below_sw (Below_drewN hb4 _) (Nat.le_refl _) _ _ _ _, hmk.trans (Mi.sw _ (by omega) (by omega) (by omega) (by omega)), (sw_other _ (by omega) (by omega)).trans hvk.out, ?_, ?_⟩
                                · intro t k1 k2
                                  by_cases e : t = i'
                                  · rw [e, sw_left]; have e2 := hE2.out (by omega); have := hvk.out; omega
                                  · rw [sw_other _ e (by omega)]; exact hL2.out t k1 (by omega)
                                · intro t k1 k2
                                  by_cases e : t = j'
                                  · rw [e, sw_right]; have e1 := hE1.out (by omega); have := hvk.out; omega
                                  · rw [sw_other _ (by omega) e]; exact hR2.out t (by omega) k2
                              case measure => simp [nat]; omega
                          · have hE2 : Hid (i' ≤ j' → dk j' < dk lo) := fun h => absurd h hij
                            go_quiet (first | (go_at_call 21; refine Calls.quiet_of_same (less _ _ _)))
                            go_wp2
                            clear hcl hcj
                            obtain ⟨w4, hw4⟩ : ∃ w4, wr.drewN nq = w4 := ⟨_, rfl⟩
                            rw [hw4]
                            have hr4 : Hid (w4.rowIs b 26 C (row dk)) := hw4 ▸ rowIs_drewN hr3.out nq
                            have hb4 : Below b w w4 := hw4 ▸ Below_drewN hb3 nq
                            have hcj4 : w4.cell? ⟨b, j', none⟩ = some (.int .u32 (dk j')) := hr4.out.cell (by omega)
                            have hcl4 : w4.cell? ⟨b, lo, none⟩ = some (.int .u32 (dk lo)) := hr4.out.cell (by omega)
                            have hf4 : ∀ t, w4.frozen? ⟨b, t, none⟩ = false := fun t => hr4.out.frozen t
                            have hjn : j' < n := by omega
                            have hgt : j' + 1 = i' := by omega
                            clear hw4 hr3 hb3
                            by_cases hjl : lo = j'
                            · subst hjl
                              go_region
                              all_goals go_wp2
                              go_ret2
                              exact ⟨lo, false, rfl, by omega, by omega, below_sw (Below_drewN hb4 _) (Nat.le_refl _) _ _ _ _, sw dk lo lo, row_sw (rowIs_drewN hr4.out _) lo lo, hmk.trans (Mi.sw _ (by omega) (by omega) (by omega) (by omega)), part_fin hvk.out hL2.out hR2.out (by omega) (by omega)⟩
                            · have hjl' : lo < j' := by omega
                              clear hjl
                              go_region
                              all_goals go_wp2
                              go_ret2
                              exact ⟨j', false, rfl, by omega, by omega, below_sw (Below_drewN hb4 _) (Nat.le_refl _) _ _ _ _, sw dk j' lo, row_sw (rowIs_drewN hr4.out _) j' lo, hmk.trans (Mi.sw _ (by omega) (by omega) (by omega) (by omega)), part_fin hvk.out hL2.out hR2.out (by omega) (by omega)⟩
                    · have hE1 : Hid (i' ≤ j → dk lo ≤ dk i') := fun h => absurd h hij
                      go_quiet (first | (go_at_call 21; refine Calls.quiet_of_same (less _ _ _)))
                      go_wp2
                      clear hcl
                      obtain ⟨w2, hw2⟩ : ∃ w2, wr.drewN nq = w2 := ⟨_, rfl⟩
                      rw [hw2]
                      replace hr2 : Hid (w2.rowIs b 26 C (row dk)) := hw2 ▸ rowIs_drewN hr2.out nq
                      replace hb2 : Below b w w2 := hw2 ▸ Below_drewN hb2 nq
                      clear hw2
                      go_loopw [11] (fun vj wr2 => ∃ (j' : Nat), vj = .int .i64 j' ∧ i' ≤ j' + 1 ∧ j' ≤ j ∧ wr2.rowIs b 26 C (row dk) ∧ Below b w wr2 ∧ ∀ t, j' < t → t < hi → v ≤ dk t) (fun vj _ => nat vj)
                      case atStart => exact ⟨j, rfl, by omega, Nat.le_refl _, hr2.out, hb2, hR.out⟩
                      case round =>
                        clear hr2 hb2
                        obtain ⟨j', rfl, g3, g4, hr3, hb3, hR2⟩ := hrel
                        replace hR2 := hide hR2
                        have hcl : wr.cell? ⟨b, lo, none⟩ = some (.int .u32 (dk lo)) := hr3.cell (by omega)
                        have hcj : wr.cell? ⟨b, j', none⟩ = some (.int .u32 (dk j')) := hr3.cell (by omega)
                        replace hr3 := hide hr3
                        have hjn : j' < n := by omega
                        go_wp2
                        by_cases hij : i' ≤ j'
                        · exfalso; omega
                        · have hE2 : Hid (i' ≤ j' → dk j' < dk lo) := fun h => absurd h hij
                          go_quiet (first | (go_at_call 21; refine Calls.quiet_of_same (less _ _ _)))
                          go_wp2
                          clear hcl hcj
                          obtain ⟨w4, hw4⟩ : ∃ w4, wr.drewN nq = w4 := ⟨_, rfl⟩
                          rw [hw4]
                          have hr4 : Hid (w4.rowIs b 26 C (row dk)) := hw4 ▸ rowIs_drewN hr3.out nq
                          have hb4 : Below b w w4 := hw4 ▸ Below_drewN hb3 nq
                          have hcj4 : w4.cell? ⟨b, j', none⟩ = some (.int .u32 (dk j')) := hr4.out.cell (by omega)
                          have hcl4 : w4.cell? ⟨b, lo, none⟩ = some (.int .u32 (dk lo)) := hr4.out.cell (by omega)
                          have hf4 : ∀ t, w4.frozen? ⟨b, t, none⟩ = false := fun t => hr4.out.frozen t
                          have hjn : j' < n := by omega
                          have hgt : j' + 1 = i' := by omega
                          clear hw4 hr3 hb3
                          by_cases hjl : lo = j'
                          · subst hjl
                            go_region
                            all_goals go_wp2
                            go_ret2
                            exact ⟨lo, false, rfl, by omega, by omega, below_sw (Below_drewN hb4 _) (Nat.le_refl _) _ _ _ _, sw dk lo lo, row_sw (rowIs_drewN hr4.out _) lo lo, hmk.trans (Mi.sw _ (by omega) (by omega) (by omega) (by omega)), part_fin hvk.out hL2.out hR2.out (by omega) (by omega)⟩
                          · have hjl' : lo < j' := by omega
                            clear hjl
                            go_region
                            all_goals go_wp2
                            go_ret2
                            exact ⟨j', false, rfl, by omega, by omega, below_sw (Below_drewN hb4 _) (Nat.le_refl _) _ _ _ _, sw dk j' lo, row_sw (rowIs_drewN hr4.out _) j' lo, hmk.trans (Mi.sw _ (by omega) (by omega) (by omega) (by omega)), part_fin hvk.out hL2.out hR2.out (by omega) (by omega)⟩
            · have hE2 : Hid (i' ≤ j' → dk j' < dk lo) := fun h => absurd h hij
              go_quiet (first | (go_at_call 21; refine Calls.quiet_of_same (less _ _ _)))
              go_wp2
              clear hcl hcj
              obtain ⟨w4, hw4⟩ : ∃ w4, wr.drewN nq = w4 := ⟨_, rfl⟩
              rw [hw4]
              have hr4 : Hid (w4.rowIs b 26 C (row dk)) := hw4 ▸ rowIs_drewN hr3.out nq
              have hb4 : Below b w w4 := hw4 ▸ Below_drewN hb3 nq
              have hcj4 : w4.cell? ⟨b, j', none⟩ = some (.int .u32 (dk j')) := hr4.out.cell (by omega)
              have hcl4 : w4.cell? ⟨b, lo, none⟩ = some (.int .u32 (dk lo)) := hr4.out.cell (by omega)
              have hf4 : ∀ t, w4.frozen? ⟨b, t, none⟩ = false := fun t => hr4.out.frozen t
              have hjn : j' < n := by omega
              have hgt : j' + 1 = i' := by omega
              clear hw4 hr3 hb3
              by_cases hjl : lo = j'
              · subst hjl
                go_region
                all_goals go_wp2
                go_ret2
                exact ⟨lo, true, rfl, by omega, by omega, below_sw (Below_drewN hb4 _) (Nat.le_refl _) _ _ _ _, sw dk lo lo, row_sw (rowIs_drewN hr4.out _) lo lo, hmk.trans (Mi.sw _ (by omega) (by omega) (by omega) (by omega)), part_fin hvk.out hL2.out hR2.out (by omega) (by omega)⟩
              · have hjl' : lo < j' := by omega
                clear hjl
                go_region
                all_goals go_wp2
                go_ret2
                exact ⟨j', true, rfl, by omega, by omega, below_sw (Below_drewN hb4 _) (Nat.le_refl _) _ _ _ _, sw dk j' lo, row_sw (rowIs_drewN hr4.out _) j' lo, hmk.trans (Mi.sw _ (by omega) (by omega) (by omega) (by omega)), part_fin hvk.out hL2.out hR2.out (by omega) (by omega)⟩
      · have hE1 : Hid (i' ≤ j → dk lo ≤ dk i') := fun h => absurd h hij
        go_quiet (first | (go_at_call 21; refine Calls.quiet_of_same (less _ _ _)))
        go_wp2
        clear hcl
        obtain ⟨w2, hw2⟩ : ∃ w2, wr.drewN nq = w2 := ⟨_, rfl⟩
        rw [hw2]
        replace hr2 : Hid (w2.rowIs b 26 C (row dk)) := hw2 ▸ rowIs_drewN hr2.out nq
        replace hb2 : Below b w w2 := hw2 ▸ Below_drewN hb2 nq
        clear hw2
        go_loopw [11] (fun vj wr2 => ∃ (j' : Nat), vj = .int .i64 j' ∧ i' ≤ j' + 1 ∧ j' ≤ j ∧ wr2.rowIs b 26 C (row dk) ∧ Below b w wr2 ∧ ∀ t, j' < t → t < hi → v ≤ dk t) (fun vj _ => nat vj)
        case atStart => exact ⟨j, rfl, by omega, Nat.le_refl _, hr2.out, hb2, hR.out⟩
        case round =>
          clear hr2 hb2
          obtain ⟨j', rfl, g3, g4, hr3, hb3, hR2⟩ := hrel
          replace hR2 := hide hR2
          have hcl : wr.cell? ⟨b, lo, none⟩ = some (.int .u32 (dk lo)) := hr3.cell (by omega)
          have hcj : wr.cell? ⟨b, j', none⟩ = some (.int .u32 (dk j')) := hr3.cell (by omega)
          replace hr3 := hide hr3
          have hjn : j' < n := by omega
          go_wp2
          by_cases hij : i' ≤ j'
          · exfalso; omega
          · have hE2 : Hid (i' ≤ j' → dk j' < dk lo) := fun h => absurd h hij
            go_quiet (first | (go_at_call 21; refine Calls.quiet_of_same (less _ _ _)))
            go_wp2
            clear hcl hcj
            obtain ⟨w4, hw4⟩ : ∃ w4, wr.drewN nq = w4 := ⟨_, rfl⟩
            rw [hw4]
            have hr4 : Hid (w4.rowIs b 26 C (row dk)) := hw4 ▸ rowIs_drewN hr3.out nq
            have hb4 : Below b w w4 := hw4 ▸ Below_drewN hb3 nq
            have hcj4 : w4.cell? ⟨b, j', none⟩ = some (.int .u32 (dk j')) := hr4.out.cell (by omega)
            have hcl4 : w4.cell? ⟨b, lo, none⟩ = some (.int .u32 (dk lo)) := hr4.out.cell (by omega)
            have hf4 : ∀ t, w4.frozen? ⟨b, t, none⟩ = false := fun t => hr4.out.frozen t
            have hjn : j' < n := by omega
            have hgt : j' + 1 = i' := by omega
            clear hw4 hr3 hb3
            by_cases hjl : lo = j'
            · subst hjl
              go_region
              all_goals go_wp2
              go_ret2
              exact ⟨lo, true, rfl, by omega, by omega, below_sw (Below_drewN hb4 _) (Nat.le_refl _) _ _ _ _, sw dk lo lo, row_sw (rowIs_drewN hr4.out _) lo lo, hmk.trans (Mi.sw _ (by omega) (by omega) (by omega) (by omega)), part_fin hvk.out hL2.out hR2.out (by omega) (by omega)⟩
            · have hjl' : lo < j' := by omega
              clear hjl
              go_region
              all_goals go_wp2
              go_ret2
              exact ⟨j', true, rfl, by omega, by omega, below_sw (Below_drewN hb4 _) (Nat.le_refl _) _ _ _ _, sw dk j' lo, row_sw (rowIs_drewN hr4.out _) j' lo, hmk.trans (Mi.sw _ (by omega) (by omega) (by omega) (by omega)), part_fin hvk.out hL2.out hR2.out (by omega) (by omega)⟩
end Go.Proofs.Ybulkdfzs.S
