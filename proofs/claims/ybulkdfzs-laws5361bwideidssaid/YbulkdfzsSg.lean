/-
  order2Ordered, medianOrdered, medianAdjacentOrdered, choosePivotOrdered at ID, walked. Own text.
-/
import Derived.Test.YbulkdfzsSb
namespace Go.Proofs.Ybulkdfzs.S
open Go.RowKit Go.Proofs.Ybulkdfzs.AR
set_option linter.unusedVariables false
set_option linter.unusedSimpArgs false
set_option maxRecDepth 100000

/-- The row as it stands, the box of the count of swaps. -/
def Two (b C c : Nat) (d : Nat → Nat) (s : Nat) (w : World) : Prop := w.rowIs b 26 C (row d) ∧ w.rowIs c 3 1 (fun _ => .int .i64 (s : Int))

set_option maxHeartbeats 2000000 in
theorem order2 (b C n cap i j c s : Nat) (d : Nat → Nat) (w : World) (h2 : Two b C c d s w) (hbc : b < c) (hi : i < n) (hj : j < n) (hn : n ≤ C) (hC : n ≤ 1000000) (hs : s ≤ 1000) :
    Calls Yba.prog 32 #[.slice (some ⟨b, 0, none⟩) n cap, .int .i64 i, .int .i64 j, .pointer (some ⟨c, 0, none⟩)] w fun e w' => ∃ i' j' s' : Nat, e = .returned (.tuple #[.int .i64 i', .int .i64 j']) ∧ (∀ P : Nat → Prop, P i → P j → P i' ∧ P j') ∧ s' ≤ s + 1 ∧
      Two b C c d s' w' ∧ Below b w w' := by
  obtain ⟨hr, hb⟩ := h2
  have hci : w.cell? ⟨b, i, none⟩ = some (.int .u32 (d i)) := hr.cell (by omega)
  have hcj : w.cell? ⟨b, j, none⟩ = some (.int .u32 (d j)) := hr.cell (by omega)
  have hcc : w.cell? ⟨c, 0, none⟩ = some (.int .i64 s) := hb.cell (by omega)
  have hf : ∀ t, w.frozen? ⟨c, t, none⟩ = false := fun t => hb.frozen t
  replace hr := hide hr
  replace hb := hide hb
  go_enter Yba.func32, Yba.ntmps32
  go_wp2
  go_quiet (first | (go_at_call 21; refine Calls.quiet_of_same (less _ _ _)))
  go_wp2
  · go_ret2
    refine ⟨j, i, s + 1, rfl, fun P h1 h2 => ⟨h2, h1⟩, Nat.le_refl _, ⟨?_, ?_⟩, ?_⟩
    · exact (rowIs_drewN hr.out _).setOther (by simp; omega) _
    · exact ((rowIs_drewN hb.out _).set 0 _).congr fun t ht => by rw [if_pos (by omega)]; go_num
    · exact (Below_drewN (Below.refl _ _) _).setCell (by simp; omega) _
  · go_ret2
    exact ⟨i, j, s, rfl, fun P h1 h2 => ⟨h1, h2⟩, by omega, ⟨rowIs_drewN hr.out _, rowIs_drewN hb.out _⟩, Below_drewN (Below.refl _ _) _⟩

theorem median (b C n cap i j k c s : Nat) (d : Nat → Nat) (w : World) (h2 : Two b C c d s w) (hbc : b < c) (hi : i < n) (hj : j < n) (hk : k < n) (hn : n ≤ C) (hC : n ≤ 1000000) (hs : s ≤ 900) :
    Calls Yba.prog 30 #[.slice (some ⟨b, 0, none⟩) n cap, .int .i64 i, .int .i64 j, .int .i64 k, .pointer (some ⟨c, 0, none⟩)] w fun e w' => ∃ r s' : Nat, e = .returned (.int .i64 r) ∧ (∀ P : Nat → Prop, P i → P j → P k → P r) ∧ s' ≤ s + 3 ∧
      Two b C c d s' w' ∧ Below b w w' := by
  go_enter Yba.func30, Yba.ntmps30
  go_wp2_with fail
  refine (order2 b C n cap i j c s d _ h2 hbc hi hj hn hC (by omega)).mono ?_
  rintro e w1 ⟨i1, j1, s1, rfl, p1, q1, t1, b1⟩
  have m1 := p1 (· < n) hi hj
  replace p1 := hide p1
  replace t1 := hide t1
  go_wp2_with fail
  refine (order2 b C n cap j1 k c s1 d _ t1.out hbc m1.2 hk hn hC (by omega)).mono ?_
  rintro e w2 ⟨j2, k2, s2, rfl, p2, q2, t2, b2⟩
  have m2 := p2 (· < n) m1.2 hk
  replace p2 := hide p2
  replace t2 := hide t2
  go_wp2_with fail
  refine (order2 b C n cap i1 j2 c s2 d _ t2.out hbc m1.1 m2.1 hn hC (by omega)).mono ?_
  rintro e w3 ⟨i3, j3, s3, rfl, p3, q3, t3, b3⟩
  replace p3 := hide p3
  go_wp2
  go_ret
  exact ⟨j3, s3, rfl, fun P a1 a2 a3 => (p3.out P (p1.out P a1 a2).1 (p2.out P (p1.out P a1 a2).2 a3).1).2, by omega, t3, (b1.trans b2).trans b3⟩

theorem medianAdj (b C n cap i c s : Nat) (d : Nat → Nat) (w : World) (h2 : Two b C c d s w) (hbc : b < c) (hi0 : 0 < i) (hi : i + 1 < n) (hn : n ≤ C) (hC : n ≤ 1000000) (hs : s ≤ 900) :
    Calls Yba.prog 29 #[.slice (some ⟨b, 0, none⟩) n cap, .int .i64 i, .pointer (some ⟨c, 0, none⟩)] w fun e w' => ∃ r s' : Nat, e = .returned (.int .i64 r) ∧ (i - 1 ≤ r ∧ r ≤ i + 1) ∧ s' ≤ s + 3 ∧
      Two b C c d s' w' ∧ Below b w w' := by
  have e1 : (i : Int) - 1 = ((i - 1 : Nat) : Int) := by omega
  have e2 : (i : Int) + 1 = ((i + 1 : Nat) : Int) := by omega
  go_enter Yba.func29, Yba.ntmps29
  replace e1 := hide e1
  replace e2 := hide e2
  go_wp2_with fail
  rw [e1.out, e2.out]
  refine (median b C n cap (i - 1) i (i + 1) c s d _ h2 hbc (by omega) (by omega) hi hn hC hs).mono ?_
  rintro e w1 ⟨r, s1, rfl, p1, q1, t1, b1⟩
  replace p1 := hide p1
  go_wp2
  go_ret
  exact ⟨r, s1, rfl, p1.out (fun x => i - 1 ≤ x ∧ x ≤ i + 1) (by omega) (by omega) (by omega), q1, t1, b1⟩

set_option maxHeartbeats 4000000 in
theorem choosePivot (b C n cap lo hi : Nat) (d : Nat → Nat) (w : World) (hr : w.rowIs b 26 C (row d)) (hlo : lo + 12 < hi) (hhi : hi ≤ n) (hn : n ≤ C) (hC : n ≤ 1000000) :
    Calls Yba.prog 18 #[.slice (some ⟨b, 0, none⟩) n cap, .int .i64 lo, .int .i64 hi] w fun e w' => ∃ p h : Nat, e = .returned (.tuple #[.int .i64 p, .int .i64 h]) ∧ lo ≤ p ∧ p < hi ∧ w'.rowIs b 26 C (row d) ∧ Below b w w' := by
  obtain ⟨m, hm⟩ : ∃ m, hi = lo + m := ⟨hi - lo, by omega⟩
  obtain ⟨q, hq⟩ : ∃ q, q = m / 4 := ⟨_, rfl⟩
  have em : Hid ((hi : Int) - (lo : Int) = (m : Int)) := by show _ = _; omega
  have eq : Hid ((m : Int) / 4 = (q : Int)) := by show _ = _; omega
  have hq3 : 3 ≤ q := by omega
  have hq4 : 4 * q ≤ m := by omega
  have hmC : m ≤ 1000000 := by omega
  have hqC : q ≤ 1000000 := by omega
  have hlC : lo ≤ 1000000 := by omega
  have hqm : lo + 4 * q ≤ n := by omega
  have hm8 : 8 ≤ m := by omega
  have T0 : Hid (Two b C w.heap.size d 0 (w.alloc (.cells #[.int .i64 0] 3))) := ⟨hr.alloc _, World.rowIs_alloc w #[.int .i64 0] 3 _ (by
    intro i hi
    have hi' : i < 1 := hi
    have e : i = 0 := by omega
    subst e
    rfl)⟩
  have B0 : Hid (Below b w (w.alloc (.cells #[.int .i64 0] 3))) := (Below.refl _ _).alloc (Nat.le_of_lt hr.lt) _
  have hbc : b < w.heap.size := hr.lt
  replace hm := hide hm
  replace hq := hide hq
  replace hr := hide hr
  go_enter Yba.func18, Yba.ntmps18
  go_wp2_with fail
  · rw [em.out, eq.out]
    obtain ⟨x, hx⟩ : ∃ x, lo + q = x := ⟨_, rfl⟩
    obtain ⟨y, hy⟩ : ∃ y, lo + q * 2 = y := ⟨_, rfl⟩
    obtain ⟨z, hz⟩ : ∃ z, lo + q * 3 = z := ⟨_, rfl⟩
    rw [show ((lo : Int) + (q : Int)) = (x : Int) by omega, show ((lo : Int) + (q : Int) * 2) = (y : Int) by omega, show ((lo : Int) + (q : Int) * 3) = (z : Int) by omega]
    have hx1 : lo < x ∧ x + 1 < hi := by have := hm.out; omega
    have hy1 : lo < y ∧ y + 1 < hi := by have := hm.out; omega
    have hz1 : lo < z ∧ z + 1 < hi := by have := hm.out; omega
    clear hx hy hz
    refine (medianAdj b C n cap x w.heap.size 0 d _ T0.out hbc (by omega) (by omega) hn hC (by omega)).mono ?_
    rintro e w1 ⟨r1, s1, rfl, p1, q1, t1, b1⟩
    replace t1 := hide t1
    have B1 : Hid (Below b w w1) := B0.out.trans b1
    go_wp2_with fail
    refine (medianAdj b C n cap y w.heap.size s1 d _ t1.out hbc (by omega) (by omega) hn hC (by omega)).mono ?_
    rintro e w2 ⟨r2, s2, rfl, p2, q2, t2, b2⟩
    replace t2 := hide t2
    have B2 : Hid (Below b w w2) := B1.out.trans b2
    go_wp2_with fail
    refine (medianAdj b C n cap z w.heap.size s2 d _ t2.out hbc (by omega) (by omega) hn hC (by omega)).mono ?_
    rintro e w3 ⟨r3, s3, rfl, p3, q3, t3, b3⟩
    replace t3 := hide t3
    have B3 : Hid (Below b w w3) := B2.out.trans b3
    go_wp2_with fail
    refine (median b C n cap r1 r2 r3 w.heap.size s3 d _ t3.out hbc (by omega) (by omega) (by omega) hn hC (by omega)).mono ?_
    rintro e w9 ⟨r, s9, rfl, p9, q9, t9, b9⟩
    have hrr := p9 (fun x => lo ≤ x ∧ x < hi) (by omega) (by omega) (by omega)
    clear p9
    have hcs : w9.cell? ⟨w.heap.size, 0, none⟩ = some (.int .i64 s9) := t9.2.cell (by omega)
    replace t9 := hide t9
    go_wp2
    · go_ret2
      exact ⟨r, 1, rfl, hrr.1, hrr.2, t9.out.1, B3.out.trans b9⟩
    · go_ret2
      exact ⟨r, 2, rfl, hrr.1, hrr.2, t9.out.1, B3.out.trans b9⟩
    · go_ret2
      exact ⟨r, 0, rfl, hrr.1, hrr.2, t9.out.1, B3.out.trans b9⟩
  · rw [em.out, eq.out]
    obtain ⟨x, hx⟩ : ∃ x, lo + q = x := ⟨_, rfl⟩
    obtain ⟨y, hy⟩ : ∃ y, lo + q * 2 = y := ⟨_, rfl⟩
    obtain ⟨z, hz⟩ : ∃ z, lo + q * 3 = z := ⟨_, rfl⟩
    rw [show ((lo : Int) + (q : Int)) = (x : Int) by omega, show ((lo : Int) + (q : Int) * 2) = (y : Int) by omega, show ((lo : Int) + (q : Int) * 3) = (z : Int) by omega]
    have hx1 : lo < x ∧ x + 1 < hi := by have := hm.out; omega
    have hy1 : lo < y ∧ y + 1 < hi := by have := hm.out; omega
    have hz1 : lo < z ∧ z + 1 < hi := by have := hm.out; omega
    clear hx hy hz
    refine (median b C n cap x y z w.heap.size 0 d _ T0.out hbc (by omega) (by omega) (by omega) hn hC (by omega)).mono ?_
    rintro e w9 ⟨r, s9, rfl, p9, q9, t9, b9⟩
    have hrr := p9 (fun x => lo ≤ x ∧ x < hi) (by omega) (by omega) (by omega)
    clear p9
    have hcs : w9.cell? ⟨w.heap.size, 0, none⟩ = some (.int .i64 s9) := t9.2.cell (by omega)
    replace t9 := hide t9
    go_wp2
    · go_ret2
      exact ⟨r, 1, rfl, hrr.1, hrr.2, t9.out.1, B0.out.trans b9⟩
    · go_ret2
      exact ⟨r, 0, rfl, hrr.1, hrr.2, t9.out.1, B0.out.trans b9⟩
end Go.Proofs.Ybulkdfzs.S
