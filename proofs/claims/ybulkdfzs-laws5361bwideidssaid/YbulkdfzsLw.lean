/-
  LawS5361BSmallIDs, LawS5361BWideIDs, walked. Own text.
-/
import Derived.Test.YbulkdfzsCm
namespace Go.Proofs.Ybulkdfzs.S
open Go.RowKit Go.Proofs.Ybulkdfzs.AR Go.Proofs.Ybulkdfzs.Pl
set_option linter.unusedVariables false
set_option linter.unusedSimpArgs false
set_option maxRecDepth 100000

theorem small_big (a0 : Option Addr) (l0 c0 : Nat) (a1 : Option Addr) (l1 c1 : Nat) (w : World) (h : ¬ (l0 ≤ 1024 ∧ l1 ≤ 1024)) :
    Calls Yba.prog 4 #[.slice a0 l0 c0, .slice a1 l1 c1] w fun e w' => e = .returned (.bool true) ∧ Below w.heap.size w w' := by
  by_cases hb : 1024 < l0
  · go_enter Yba.func4, Yba.ntmps4
    go_wp2
    go_ret
    exact ⟨rfl, Below.refl _ _⟩
  · have hb1 : 1024 < l1 := by omega
    go_enter Yba.func4, Yba.ntmps4
    go_wp2
    go_ret
    exact ⟨rfl, Below.refl _ _⟩
theorem wide_big (a0 : Option Addr) (l0 c0 : Nat) (a1 : Option Addr) (l1 c1 : Nat) (w : World) (h : ¬ (l0 ≤ 1024 ∧ l1 ≤ 1024)) :
    Calls Yba.prog 5 #[.slice a0 l0 c0, .slice a1 l1 c1] w fun e w' => e = .returned (.bool true) ∧ Below w.heap.size w w' := by
  by_cases hb : 1024 < l0
  · go_enter Yba.func5, Yba.ntmps5
    go_wp2
    go_ret
    exact ⟨rfl, Below.refl _ _⟩
  · have hb1 : 1024 < l1 := by omega
    go_enter Yba.func5, Yba.ntmps5
    go_wp2
    go_ret
    exact ⟨rfl, Below.refl _ _⟩

/-- The row of ids behind k rounds. -/
def upTo (d : Nat → Nat) (k t : Nat) : Nat := if t < k then d t else 0
theorem upTo_row {w : World} {S n k : Nat} {d : Nat → Nat} {x : Int} (h : w.rowIs S 26 n (row (upTo d k))) (hx : x = ((d k : Nat) : Int)) : (w.setCell ⟨S, k, none⟩ (.int .u32 x)).rowIs S 26 n (row (upTo d (k + 1))) := by
  refine (h.set k _).congr fun t ht => ?_
  unfold row upTo
  by_cases e : t = k
  · subst e
    rw [if_pos rfl, if_pos (by omega), hx]
  · rw [if_neg e]
    by_cases e2 : t < k
    · rw [if_pos e2, if_pos (by omega)]
    · rw [if_neg e2, if_neg (by omega)]

set_option maxHeartbeats 2000000 in
theorem small (a0 : Option Addr) (l0 c0 : Nat) (z0 : List Int) (a1 : Option Addr) (l1 c1 : Nat) (z1 : List Int) (w : World) (h0 : l0 ≤ 1024) (h1 : l1 ≤ 1024) (harg0 : Arg .u16 w a0 l0 z0) (hwf : ∀ i, 0 ≤ z0.getD i 0 ∧ z0.getD i 0 ≤ 65535) (harg1 : Arg .u32 w a1 l1 z1) :
    Calls Yba.prog 4 #[.slice a0 l0 c0, .slice a1 l1 c1] w fun e w' => e = .returned (.bool true) ∧ Below w.heap.size w w' := by
  have hmk := fun w => make_k (P := Yba.prog) 30 26 (.int .u32 0) 1 4 Yba.underlying30 info26 .i64 .i64 l0 (by omega) (by omega) w
  simp only [Nat.mul_one] at hmk
  have hrow0 : (w.alloc (.cells (madeCells #[.int .u32 0] l0) 26)).rowIs w.heap.size 26 l0 (row (upTo (fun t => (z0.getD t 0).toNat + 1) 0)) := rowIs_make w _ _ _ _ fun j _ => by simp [row, upTo, Nat.mod_one]
  have hb0 : Below w.heap.size w (w.alloc (.cells (madeCells #[.int .u32 0] l0) 26)) := (Below.refl _ _).alloc (Nat.le_refl _) _
  replace hrow0 := hide hrow0
  replace hb0 := hide hb0
  replace harg0 := hide harg0
  replace harg1 := hide harg1
  replace hwf := hide hwf
  go_enter Yba.func4, Yba.ntmps4
  go_wp2
  go_loopw [20] (fun vk wr => ∃ k : Nat, vk = .int .i64 (k : Int) ∧ k ≤ l0 ∧ wr.rowIs w.heap.size 26 l0 (row (upTo (fun t => (z0.getD t 0).toNat + 1) k)) ∧ Below w.heap.size w wr) (fun vk _ => l0 - nat vk)
  case atStart => exact ⟨0, rfl, by omega, hrow0.out, hb0.out⟩
  case round =>
    clear hrow0 hb0 hmk
    obtain ⟨k, rfl, hk, hrow, hb⟩ := hrel
    by_cases hkl : k < l0
    · obtain ⟨ab, off, ha, hc, hlt⟩ := harg0.out k hkl
      have hcA : wr.cell? ⟨ab, off + k, none⟩ = some (.int .u16 (z0.getD k 0)) := (hb.cell (p := ⟨ab, off + k, none⟩) hlt).trans hc
      have hz := hwf.out k
      have hx : Hid (z0.getD k 0 + 1 = (((z0.getD k 0).toNat + 1 : Nat) : Int)) := by show _ = _; omega
      have hcD : wr.cell? ⟨w.heap.size, k, none⟩ = some (row (upTo (fun t => (z0.getD t 0).toNat + 1) k) k) := hrow.cell hkl
      have hfD : ∀ t, wr.frozen? ⟨w.heap.size, t, none⟩ = false := fun t => hrow.frozen t
      generalize row (upTo (fun t => (z0.getD t 0).toNat + 1) k) k = old at hcD
      have hstep := hide (upTo_row hrow hx.out)
      replace hrow := hide hrow
      clear hc hx
      subst ha
      generalize z0.getD k 0 = zk at hcA hz hstep
      go_wp2
      go_roundw
      case rel => exact ⟨k + 1, by go_num, by omega, hstep.out, hb.setCell (p := ⟨w.heap.size, k, none⟩) (Nat.le_refl _) _⟩
      case measure => simp [nat]; omega
    · have hkl' : k = l0 := by omega
      subst hkl'
      clear hkl hk
      replace hrow := hide hrow
      go_wp2_with fail
      refine (check w.heap.size k _ a1 l1 c1 z1 wr hrow.out h0 h1 (fun t ht => ?_) ?_).mono ?_
      · have := hwf.out t
        unfold upTo
        rw [if_pos ht]
        show 0 < (z0.getD t 0).toNat + 1 ∧ (z0.getD t 0).toNat + 1 < 2147483648
        omega
      · intro i hi
        obtain ⟨ab, off, e, hc, hlt⟩ := harg1.out i hi
        exact ⟨ab, off, e, (hb.cell (p := ⟨ab, off + i, none⟩) hlt).trans hc, by have := hb.size; omega⟩
      · rintro e w' ⟨rfl, hb'⟩
        go_wp2
        go_ret
        exact ⟨rfl, hb.trans (hb'.mono hb.size)⟩
/-- The wide law's id. -/
def wid (z : Int) : Nat := if z.toNat % 2147483648 = 0 then 1 else z.toNat % 2147483648
theorem and_low (z : Int) (h : 0 ≤ z ∧ z ≤ 4294967295) : bits .and .u32 z 2147483647 = ((z.toNat % 2147483648 : Nat) : Int) := by
  obtain ⟨n, rfl⟩ : ∃ n : Nat, z = (n : Int) := ⟨z.toNat, by omega⟩
  have := and32 n 2147483647 (by omega) (by omega)
  rw [show (2147483647 : Nat) = 2 ^ 31 - 1 from rfl, Nat.and_two_pow_sub_one_eq_mod] at this
  simpa using this

set_option maxHeartbeats 2000000 in
theorem wide (a0 : Option Addr) (l0 c0 : Nat) (z0 : List Int) (a1 : Option Addr) (l1 c1 : Nat) (z1 : List Int) (w : World) (h0 : l0 ≤ 1024) (h1 : l1 ≤ 1024) (harg0 : Arg .u32 w a0 l0 z0) (hwf : ∀ i, 0 ≤ z0.getD i 0 ∧ z0.getD i 0 ≤ 4294967295) (harg1 : Arg .u32 w a1 l1 z1) :
    Calls Yba.prog 5 #[.slice a0 l0 c0, .slice a1 l1 c1] w fun e w' => e = .returned (.bool true) ∧ Below w.heap.size w w' := by
  have hmk := fun w => make_k (P := Yba.prog) 30 26 (.int .u32 0) 1 4 Yba.underlying30 info26 .i64 .i64 l0 (by omega) (by omega) w
  simp only [Nat.mul_one] at hmk
  have hrow0 : (w.alloc (.cells (madeCells #[.int .u32 0] l0) 26)).rowIs w.heap.size 26 l0 (row (upTo (fun t => wid (z0.getD t 0)) 0)) := rowIs_make w _ _ _ _ fun j _ => by simp [row, upTo, Nat.mod_one]
  have hb0 : Below w.heap.size w (w.alloc (.cells (madeCells #[.int .u32 0] l0) 26)) := (Below.refl _ _).alloc (Nat.le_refl _) _
  replace hrow0 := hide hrow0
  replace hb0 := hide hb0
  replace harg0 := hide harg0
  replace harg1 := hide harg1
  replace hwf := hide hwf
  go_enter Yba.func5, Yba.ntmps5
  go_wp2
  go_loopw [21] (fun vk wr => ∃ k : Nat, vk = .int .i64 (k : Int) ∧ k ≤ l0 ∧ wr.rowIs w.heap.size 26 l0 (row (upTo (fun t => wid (z0.getD t 0)) k)) ∧ Below w.heap.size w wr) (fun vk _ => l0 - nat vk)
  case atStart => exact ⟨0, rfl, by omega, hrow0.out, hb0.out⟩
  case round =>
    clear hrow0 hb0 hmk
    obtain ⟨k, rfl, hk, hrow, hb⟩ := hrel
    by_cases hkl : k < l0
    · obtain ⟨ab, off, ha, hc, hlt⟩ := harg0.out k hkl
      have hcA : wr.cell? ⟨ab, off + k, none⟩ = some (.int .u32 (z0.getD k 0)) := (hb.cell (p := ⟨ab, off + k, none⟩) hlt).trans hc
      have hz := hwf.out k
      have hand : bits .and .u32 (z0.getD k 0) 2147483647 = (((z0.getD k 0).toNat % 2147483648 : Nat) : Int) := and_low _ hz
      have hcD : wr.cell? ⟨w.heap.size, k, none⟩ = some (row (upTo (fun t => wid (z0.getD t 0)) k) k) := hrow.cell hkl
      have hfD : ∀ t, wr.frozen? ⟨w.heap.size, t, none⟩ = false := fun t => hrow.frozen t
      generalize row (upTo (fun t => wid (z0.getD t 0)) k) k = old at hcD
      have hstep0 := hide (fun h : (z0.getD k 0).toNat % 2147483648 = 0 => upTo_row hrow (x := 1) (by show (1 : Int) = ((wid (z0.getD k 0) : Nat) : Int); unfold wid; rw [if_pos h]; rfl))
      have hstep1 := hide (fun h : ¬ (z0.getD k 0).toNat % 2147483648 = 0 => upTo_row hrow (x := (((z0.getD k 0).toNat % 2147483648 : Nat) : Int)) (by show _ = ((wid (z0.getD k 0) : Nat) : Int); unfold wid; rw [if_neg h]))
      replace hrow := hide hrow
      clear hc
      subst ha
      generalize hq : (z0.getD k 0).toNat % 2147483648 = q at hand hstep0 hstep1
      replace hq := hide hq
      generalize z0.getD k 0 = zk at hcA hz hand hstep0 hstep1 hq
      by_cases hq0 : q = 0
      · have hqb : ((q : Int) == 0) = true := by simp; omega
        go_wp2
        go_roundw
        case rel => exact ⟨k + 1, by go_num, by omega, hstep0.out hq0, hb.setCell (p := ⟨w.heap.size, k, none⟩) (Nat.le_refl _) _⟩
        case measure => simp [nat]; omega
      · have hqb : ((q : Int) == 0) = false := by simp; omega
        go_wp2
        go_roundw
        case rel => exact ⟨k + 1, by go_num, by omega, hstep1.out hq0, hb.setCell (p := ⟨w.heap.size, k, none⟩) (Nat.le_refl _) _⟩
        case measure => simp [nat]; omega
    · have hkl' : k = l0 := by omega
      subst hkl'
      clear hkl hk
      replace hrow := hide hrow
      go_wp2_with fail
      refine (check w.heap.size k _ a1 l1 c1 z1 wr hrow.out h0 h1 (fun t ht => ?_) ?_).mono ?_
      · have := hwf.out t
        unfold upTo
        rw [if_pos ht]
        show 0 < wid (z0.getD t 0) ∧ wid (z0.getD t 0) < 2147483648
        unfold wid
        split <;> omega
      · intro i hi
        obtain ⟨ab, off, e, hc, hlt⟩ := harg1.out i hi
        exact ⟨ab, off, e, (hb.cell (p := ⟨ab, off + i, none⟩) hlt).trans hc, by have := hb.size; omega⟩
      · rintro e w' ⟨rfl, hb'⟩
        go_wp2
        go_ret
        exact ⟨rfl, hb.trans (hb'.mono hb.size)⟩
end Go.Proofs.Ybulkdfzs.S
