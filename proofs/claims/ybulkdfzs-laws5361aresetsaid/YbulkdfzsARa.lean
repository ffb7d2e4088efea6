import Derived.Test.YbulkdfzsARBase
namespace Go.Proofs.Ybulkdfzs.AR
open Go.RowKit
set_option linter.unusedVariables false
set_option linter.unusedSimpArgs false
set_option maxRecDepth 100000

/-- The stack's row behind k rounds. -/
def stF (z : List Int) (k j : Nat) : Value :=
  if j % 4 = 0 then .int .u32 (if j / 4 < k then z.getD (j / 4) 0 else 0)
  else if j % 4 = 1 then .int .i32 (if j / 4 < k then ((j / 4 : Nat) : Int) else 0)
  else if j % 4 = 2 then .bool (decide (j / 4 < k))
  else .bool false

theorem stF_step {w : World} {S n : Nat} {z : List Int} {k : Nat} (h : w.rowIs S 28 n (stF z k)) :
    ((((w.setCell ⟨S, k * 4, none⟩ (.int .u32 (z[k]?.getD 0))).setCell ⟨S, k * 4 + 1, none⟩ (.int .i32 (k : Int))).setCell ⟨S, k * 4 + 2, none⟩ (.bool true)).setCell ⟨S, k * 4 + 3, none⟩ (.bool false)).rowIs S 28 n (stF z (k + 1)) := by
  refine ((((h.set _ _).set _ _).set _ _).set _ _).congr fun j _ => ?_
  obtain ⟨q, r, hr, rfl⟩ : ∃ q r, r < 4 ∧ j = q * 4 + r := ⟨j / 4, j % 4, Nat.mod_lt _ (by omega), by omega⟩
  have hm : (q * 4 + r) % 4 = r := by omega
  have hd : (q * 4 + r) / 4 = q := by omega
  unfold stF
  rw [hm, hd]
  by_cases hq : q = k
  · subst hq
    have c : r = 0 ∨ r = 1 ∨ r = 2 ∨ r = 3 := by omega
    rcases c with rfl | rfl | rfl | rfl <;> simp
  · have n0 : q * 4 + r ≠ k * 4 := by omega
    have n1 : q * 4 + r ≠ k * 4 + 1 := by omega
    have n2 : q * 4 + r ≠ k * 4 + 2 := by omega
    have n3 : q * 4 + r ≠ k * 4 + 3 := by omega
    have hlt : (q < k + 1) = (q < k) := by apply propext; omega
    simp only [n0, n1, n2, n3, if_false, hlt]

set_option maxHeartbeats 1000000 in
theorem seg3 (S : Nat) (a0 : Option Addr) (len0 cap0 : Nat) (z0 : List Int) (hlen : len0 ≤ 1024) (w : World) (hS : w.heap.size ≤ S) (harg : Arg .u32 w a0 len0 z0)
    (v : Nat → Value) (a : Act) (w1 : World) (Q : Exit → Act → World → Prop) (hF : Fr 299 a) (h0 : slot a 0 = .slice a0 len0 cap0) (h13 : slot a 13 = .slice (some ⟨S, 0, none⟩) len0 len0) (hK : Keep [1, 2, 3, 4, 5] v a)
    (hrow : w1.rowIs S 28 (len0 * 4) (stF z0 0)) (hb : Below S w w1)
    (hnext : Hid (∀ a' w', Fr 299 a' → slot a' 0 = .slice a0 len0 cap0 → slot a' 13 = .slice (some ⟨S, 0, none⟩) len0 len0 → Keep [1, 2, 3, 4, 5] v a' → w'.rowIs S 28 (len0 * 4) (stF z0 len0) → Below S w w' → Q .normal a' w')) :
    Code.wp Yba.prog (seqPart 3 (bodyOf Yba.f3)) Q a w1 := by
  obtain ⟨u, rfl, hu⟩ := to_lit hF
  have e0 := (hu 0 (by omega)).symm.trans h0
  have e13 := (hu 13 (by omega)).symm.trans h13
  clear hu h0 h13 hF
  conv => arg 2; whnf
  rw [e0, e13]
  go_wp2
  refine loop_rule (fun n a w' => ∃ k, n + k = len0 ∧ Fr 299 a ∧ slot a 0 = .slice a0 len0 cap0 ∧ slot a 13 = .slice (some ⟨S, 0, none⟩) len0 len0 ∧ slot a 45 = .slice a0 len0 cap0 ∧ slot a 46 = .int .i64 len0 ∧ slot a 47 = .int .i64 (k : Nat) ∧ Keep [1, 2, 3, 4, 5] v a ∧ w'.rowIs S 28 (len0 * 4) (stF z0 k) ∧ Below S w w')
    len0 ?_ ?_
  · refine ⟨0, rfl, ⟨rfl, rfl⟩, rfl, rfl, rfl, rfl, rfl, ?_, hrow, hb⟩
    intro i hi
    have := hK i hi
    simp only [List.mem_cons, List.not_mem_nil, or_false] at hi
    rcases hi with rfl | rfl | rfl | rfl | rfl <;> exact this
  · clear hK hrow hb e0 e13 u
    rintro n a w' ⟨k, hk, hF, h0, h13, h45, h46, h47, hK, hrow, hb⟩ R hR hexit
    obtain ⟨u, rfl, hu⟩ := to_lit hF
    have e0 := (hu 0 (by omega)).symm.trans h0
    have e13 := (hu 13 (by omega)).symm.trans h13
    have e45 := (hu 45 (by omega)).symm.trans h45
    have e46 := (hu 46 (by omega)).symm.trans h46
    have e47 := (hu 47 (by omega)).symm.trans h47
    clear hu h0 h13 h45 h46 h47 hF
    rw [e0, e13, e45, e46, e47]
    clear e0 e13 e45 e46 e47
    have hk' : Hid (n + k = len0) := hk
    have hkle : k ≤ len0 := by omega
    clear hk
    by_cases hlt : k < len0
    · obtain ⟨b, off, rfl, hcell, hbs⟩ := harg k hlt
      have hc := (hb.cell (p := ⟨b, off + k, none⟩) (by show b < S; omega)).trans hcell
      have hz0 := hrow.frozen
      have hKK : Hid (Keep [1, 2, 3, 4, 5] v _) := hK
      obtain ⟨x0, hx0⟩ : ∃ x, w'.cell? ⟨S, k * 4, none⟩ = some x := ⟨_, hrow.cell (by omega)⟩
      obtain ⟨x1, hx1⟩ : ∃ x, w'.cell? ⟨S, k * 4 + 1, none⟩ = some x := ⟨_, hrow.cell (by omega)⟩
      obtain ⟨x2, hx2⟩ : ∃ x, w'.cell? ⟨S, k * 4 + 2, none⟩ = some x := ⟨_, hrow.cell (by omega)⟩
      obtain ⟨x3, hx3⟩ : ∃ x, w'.cell? ⟨S, k * 4 + 3, none⟩ = some x := ⟨_, hrow.cell (by omega)⟩
      clear hK hcell harg
      go_wp2
      refine hR.out (n - 1) _ _ (by have := hk'.out; omega) ⟨k + 1, by have := hk'.out; omega, ⟨rfl, rfl⟩, rfl, rfl, rfl, rfl, congrArg (Value.int .i64) (by omega), ?_, stF_step hrow, (((hb.setCell (Nat.le_refl S) _).setCell (Nat.le_refl S) _).setCell (Nat.le_refl S) _).setCell (Nat.le_refl S) _⟩
      intro i hi
      have := hKK.out i hi
      simp only [List.mem_cons, List.not_mem_nil, or_false] at hi
      rcases hi with rfl | rfl | rfl | rfl | rfl <;> exact this
    · obtain rfl : k = len0 := by omega
      have hKK : Hid (Keep [1, 2, 3, 4, 5] v _) := hK
      clear hK
      go_wp2
      refine hexit.out _ _ _ (by simp) (hnext.out _ _ ⟨rfl, rfl⟩ rfl rfl ?_ hrow hb)
      intro i hi
      have := hKK.out i hi
      simp only [List.mem_cons, List.not_mem_nil, or_false] at hi
      rcases hi with rfl | rfl | rfl | rfl | rfl <;> exact this
end Go.Proofs.Ybulkdfzs.AR
