/-
  slices.Sort AT THE PROGRAM's ID (uint32): rows of numbers as functions of the index; what a part of a row keeps ('Mi'), 'ascending' ('Asc'); cmp.isNaN, cmp.Less, insertionSortOrdered walked. Own text.
-/
import Derived.Test.YbulkdfzsARBase
import Derived.CellFam
import Derived.BigGuard
import Derived.BigCall
import Derived.BigRegion
import Derived.Deep.Draws
import Derived.Deep.QuietTactic
import Derived.BigQuiet
namespace Go.Proofs.Ybulkdfzs.S
open Go.RowKit Go.Proofs.Ybulkdfzs.AR
set_option linter.unusedVariables false
set_option linter.unusedSimpArgs false
set_option maxRecDepth 100000

/-- A row of numbers of type ID. -/
def row (d : Nat → Nat) : Nat → Value := fun t => .int .u32 ((d t : Nat) : Int)
/-- Two places of a row changed. -/
def sw (d : Nat → Nat) (i j : Nat) : Nat → Nat := fun t => if t = j then d i else if t = i then d j else d t
/-- Behind: all outside [lo, hi) is as it was; whatever lies inside lay inside. -/
def Mi (lo hi : Nat) (d d' : Nat → Nat) : Prop := (∀ t, ¬ (lo ≤ t ∧ t < hi) → d' t = d t) ∧ ∀ t, lo ≤ t → t < hi → ∃ s, lo ≤ s ∧ s < hi ∧ d' t = d s
/-- Ascending on [lo, hi). -/
def Asc (lo hi : Nat) (d : Nat → Nat) : Prop := ∀ p q, lo ≤ p → p < q → q < hi → d p ≤ d q

theorem Mi.refl (lo hi : Nat) (d : Nat → Nat) : Mi lo hi d d := ⟨fun _ _ => rfl, fun t h1 h2 => ⟨t, h1, h2, rfl⟩⟩
theorem Mi.trans {lo hi : Nat} {d d' d'' : Nat → Nat} (h : Mi lo hi d d') (k : Mi lo hi d' d'') : Mi lo hi d d'' := by
  refine ⟨fun t ht => (k.1 t ht).trans (h.1 t ht), fun t h1 h2 => ?_⟩
  obtain ⟨s, s1, s2, e⟩ := k.2 t h1 h2
  obtain ⟨r, r1, r2, e'⟩ := h.2 s s1 s2
  exact ⟨r, r1, r2, e.trans e'⟩
theorem Mi.sw {lo hi : Nat} (d : Nat → Nat) {i j : Nat} (hi1 : lo ≤ i) (hi2 : i < hi) (hj1 : lo ≤ j) (hj2 : j < hi) : Mi lo hi d (sw d i j) := by
  refine ⟨fun t ht => ?_, fun t h1 h2 => ?_⟩
  · unfold S.sw
    rw [if_neg (by omega), if_neg (by omega)]
  · unfold S.sw
    by_cases e1 : t = j
    · exact ⟨i, hi1, hi2, by rw [if_pos e1]⟩
    · by_cases e2 : t = i
      · exact ⟨j, hj1, hj2, by rw [if_neg e1, if_pos e2]⟩
      · exact ⟨t, h1, h2, by rw [if_neg e1, if_neg e2]⟩
theorem Mi.mono {lo hi lo' hi' : Nat} {d d' : Nat → Nat} (h : Mi lo hi d d') (h1 : lo' ≤ lo) (h2 : hi ≤ hi') : Mi lo' hi' d d' := by
  refine ⟨fun t ht => h.1 t (by omega), fun t k1 k2 => ?_⟩
  by_cases e : lo ≤ t ∧ t < hi
  · obtain ⟨s, s1, s2, es⟩ := h.2 t e.1 e.2
    exact ⟨s, by omega, by omega, es⟩
  · exact ⟨t, k1, k2, h.1 t e⟩
/-- What holds of all that lies inside holds of all behind. -/
theorem Mi.all {lo hi : Nat} {d d' : Nat → Nat} (h : Mi lo hi d d') {p : Nat → Prop} (hp : ∀ t, lo ≤ t → t < hi → p (d t)) : ∀ t, lo ≤ t → t < hi → p (d' t) := by
  intro t h1 h2
  obtain ⟨s, s1, s2, e⟩ := h.2 t h1 h2
  rw [e]
  exact hp s s1 s2

theorem Below_drewN {B : Nat} {a w : World} (h : Below B a w) (n : Nat) : Below B a (w.drewN n) := ⟨h.os, h.tape, h.output, h.size, h.block⟩
theorem rowIs_drewN {w : World} {b : Nat} {t : TypeId} {n : Nat} {f : Nat → Value} (h : w.rowIs b t n f) (q : Nat) : (w.drewN q).rowIs b t n f := h
/-- Two stores: two places changed. -/
theorem row_sw {w : World} {b C : Nat} {d : Nat → Nat} (h : w.rowIs b 26 C (row d)) (i j : Nat) :
    ((w.setCell ⟨b, i, none⟩ (.int .u32 (d j))).setCell ⟨b, j, none⟩ (.int .u32 (d i))).rowIs b 26 C (row (sw d i j)) := by
  refine ((h.set i _).set j _).congr fun t ht => ?_
  unfold row sw
  by_cases e1 : t = j
  · simp [e1]
  · by_cases e2 : t = i
    · subst e2
      simp [e1]
    · simp [e1, e2]
theorem below_sw {B : Nat} {w0 w : World} (h : Below B w0 w) {b : Nat} (hb : B ≤ b) (i j : Nat) (u v : Value) : Below B w0 ((w.setCell ⟨b, i, none⟩ u).setCell ⟨b, j, none⟩ v) :=
  (h.setCell hb u).setCell hb v

theorem isNaN (x : Nat) (w : World) : Calls Yba.prog 31 #[.int .u32 x] w fun e w' => e = .returned (.bool false) ∧ w' = w := by
  go_enter Yba.func31, Yba.ntmps31
  go_wp2
  go_ret
  exact ⟨by simp, rfl⟩
theorem less (x y : Nat) (w : World) : Calls Yba.prog 21 #[.int .u32 x, .int .u32 y] w fun e w' => e = .returned (.bool (decide (x < y))) ∧ w' = w := by
  go_enter Yba.func21, Yba.ntmps21
  go_wp2_with (go_at_call 31; refine (isNaN _ _).mono ?_; rintro e w' ⟨rfl, rfl⟩)
  go_ret
  exact ⟨by simp, rfl⟩

def nat : Value → Nat | .int _ q => q.toNat | _ => 0

/-- WHAT A PART OF THE SORT LEAVES BEHIND. -/
def Left (b C lo hi : Nat) (d : Nat → Nat) (w w' : World) (p : (Nat → Nat) → Prop) : Prop := Below b w w' ∧ ∃ d', w'.rowIs b 26 C (row d') ∧ Mi lo hi d d' ∧ p d'

/-- insertionSortOrdered: ascending behind. -/
theorem insertion (b C n cap lo hi : Nat) (d : Nat → Nat) (w : World) (hr : w.rowIs b 26 C (row d)) (hlo : lo ≤ hi) (hhi : hi ≤ n) (hn : n ≤ C) (hC : n ≤ 1000000) :
    Calls Yba.prog 15 #[.slice (some ⟨b, 0, none⟩) n cap, .int .i64 lo, .int .i64 hi] w fun e w' => e = .returned (.tuple #[]) ∧ Left b C lo hi d w w' (Asc lo hi) := by
  go_enter Yba.func15, Yba.ntmps15
  go_wp2
  go_loopw [6] (fun vi wr => ∃ (i : Nat) (dk : Nat → Nat), vi = .int .i64 i ∧ lo < i ∧ i ≤ hi + 1 ∧ wr.rowIs b 26 C (row dk) ∧ Below b w wr ∧ Mi lo hi d dk ∧ Asc lo (min i hi) dk) (fun vi _ => hi + 1 - nat vi)
  case atStart => exact ⟨lo + 1, d, by go_num, by omega, by omega, hr, Below.refl _ _, Mi.refl _ _ _, fun p q h1 h2 h3 => by omega⟩
  case round =>
    obtain ⟨i, dk, rfl, hai, hib, hrk, hbk, hmk, hak⟩ := hrel
    replace hak := hide hak
    go_wp2
    · have hlt : i < hi := by assumption
      go_loopw [7] (fun vj wr2 => ∃ (j : Nat) (dj : Nat → Nat), vj = .int .i64 j ∧ lo ≤ j ∧ j ≤ i ∧ wr2.rowIs b 26 C (row dj) ∧ Below b w wr2 ∧ Mi lo hi d dj ∧ ∀ p q, lo ≤ p → p < q → q ≤ i → q ≠ j → dj p ≤ dj q) (fun vj _ => nat vj)
      case atStart => exact ⟨i, dk, rfl, by omega, Nat.le_refl _, hrk, hbk, hmk, fun p q h1 h2 h3 h4 => hak.out p q h1 h2 (by omega)⟩
      case round =>
        obtain ⟨j, dj, rfl, haj, hji, hrj, hbj, hmj, hinv⟩ := hrel
        replace hinv := hide hinv
        have hc : wr.cell? ⟨b, j, none⟩ = some (.int .u32 (dj j)) := hrj.cell (by omega)
        have hc1 : wr.cell? ⟨b, j - 1, none⟩ = some (.int .u32 (dj (j - 1))) := hrj.cell (by omega)
        have hf : ∀ t, wr.frozen? ⟨b, t, none⟩ = false := fun t => hrj.frozen t
        replace hrj := hide hrj
        have OUT : Hid (lo = j ∨ dj (j - 1) ≤ dj j → Asc lo (i + 1) dj) := fun hs p q h1 h2 h3 => by
          by_cases e : q = j
          · rcases hs with hs | hs
            · omega
            · by_cases e2 : p = j - 1
              · rw [e, e2]; exact hs
              · have := hinv.out p (j - 1) h1 (by omega) (by omega) (by omega)
                rw [e]; omega
          · exact hinv.out p q h1 h2 (by omega) e
        have FIN : Hid (∀ q, (lo = j ∨ dj (j - 1) ≤ dj j) → ∃ (i' : Nat) (dk : Nat → Nat), Value.int .i64 ((i : Int) + 1) = .int .i64 (i' : Nat) ∧ lo < i' ∧ i' ≤ hi + 1 ∧ (wr.drewN q).rowIs b 26 C (row dk) ∧ Below b w (wr.drewN q) ∧ Mi lo hi d dk ∧ Asc lo (min i' hi) dk) := fun q hs =>
          ⟨i + 1, dj, by go_num, by omega, by omega, rowIs_drewN hrj.out q, Below_drewN hbj q, hmj, by rw [Nat.min_eq_left (by omega)]; exact OUT.out hs⟩
        go_wp2
        have hjn : j < n := by omega
        have hjC : j < C := by omega
        by_cases hja : lo < j
        · go_quiet (first | (go_at_call 21; refine Calls.quiet_of_same (less _ _ _)))
          go_wp2
          · have hl : dj j < dj (j - 1) := by assumption
            go_region
            all_goals go_wp2
            go_roundw
            case rel =>
              refine ⟨j - 1, sw dj j (j - 1), by congr 1; omega, by omega, by omega, row_sw (rowIs_drewN hrj.out _) j (j - 1), below_sw (Below_drewN hbj _) (Nat.le_refl _) _ _ _ _, hmj.trans (Mi.sw _ (by omega) (by omega) (by omega) (by omega)), ?_⟩
              intro p q h1 h2 h3 h4
              have k1 := hinv.out p q h1 h2 h3
              have k2 := hinv.out p (j - 1) h1
              have k3 := hinv.out (j - 1) q (by omega)
              have k4 := hinv.out j q (by omega)
              unfold sw
              by_cases e1 : q = j
              · rw [if_neg (by omega : ¬ q = j - 1), if_pos e1]
                by_cases e2 : p = j - 1
                · rw [if_pos e2]; omega
                · rw [if_neg e2, if_neg (by omega)]
                  exact k2 (by omega) (by omega) (by omega)
              · rw [if_neg h4, if_neg e1]
                by_cases e2 : p = j - 1
                · rw [if_pos e2]
                  exact k4 (by omega) (by omega) (by omega)
                · rw [if_neg e2]
                  by_cases e3 : p = j
                  · rw [if_pos e3]
                    exact k3 (by omega) (by omega) (by omega)
                  · rw [if_neg e3]
                    exact k1 (by omega)
            case measure => simp [nat]; omega
          · have hl : ¬ dj j < dj (j - 1) := by assumption
            go_roundw
            case rel => exact FIN.out nq (Or.inr (by omega))
            case measure => simp [nat]; omega
        · go_quiet (first | (go_at_call 21; refine Calls.quiet_of_same (less _ _ _)))
          go_wp2
          go_roundw
          case rel => exact FIN.out nq (Or.inl (by omega))
          case measure => simp [nat]; omega
    · have hge : ¬ i < hi := by assumption
      go_end0
      exact ⟨rfl, hbk, dk, hrk, hmk, by rw [← Nat.min_eq_right (Nat.le_of_not_lt hge)]; exact hak.out⟩
end Go.Proofs.Ybulkdfzs.S
