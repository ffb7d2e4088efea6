/-
  math/bits.Len, nextPowerOfTwo, xorshift.Next off the shelf; breakPatternsOrdered at ID, walked. Own text.
-/
import Derived.Test.YbulkdfzsSb
import Derived.Shelf.Small.Bits
import Derived.Shelf.SlSortCmp.Xorshift
import Derived.Shelf.Lay
import Derived.Laws.Bits64b
import Derived.Ground.NamesProg
import Derived.Ground.SlsfProg
namespace Go.Proofs.Ybulkdfzs.S
open Go.RowKit Go.Proofs.Ybulkdfzs.AR Go.Shelf
set_option linter.unusedVariables false
set_option linter.unusedSimpArgs false
set_option maxRecDepth 100000
shelf_lay Lays.n125 Nm 125 at Yba as Yba.bitsLen
shelf_lay SlLaysF0.n48 Slsf 48 at Yba as Yba.xorNext
shelf_lay SlLaysF0.n47 Slsf 47 at Yba as Yba.nextPow

theorem bitsLen (x : Nat) (w : World) (h : x ≤ 1000000) : Calls Yba.prog 14 #[.int .u64 x] w fun e w' => e = .returned (.int .i64 (Lib.bitLen x)) ∧ w' = w :=
  (Any.bits_Len Yba.bitsLen x w (by omega) (by omega)).mono fun e w' ⟨he, hw⟩ => ⟨by simpa using he, hw⟩

theorem nextPow (n : Nat) (h0 : 0 < n) (hn : n ≤ 1000000) (w : World) : Calls Yba.prog 27 #[.int .i64 n] w fun e w' => (∃ m : Nat, e = .returned (.int .u64 m) ∧ 0 < m ∧ m ≤ 2 * n) ∧ w' = w := by
  refine (AnyF.nextPowerOfTwo Yba.nextPow n (by omega) w).mono fun e w' ⟨he, hw⟩ => ⟨⟨_, he, ?_, ?_⟩, hw⟩
  · rw [Nat.shiftLeft_eq]; have := Nat.two_pow_pos (Sort.bitsLen n); omega
  · rw [Nat.shiftLeft_eq, Nat.one_mul]
    have h1 := Sort.bitsLen_le_iff n 0
    have h2 := Sort.bitsLen_le_iff n (Sort.bitsLen n - 1)
    have h3 : 0 < Sort.bitsLen n := by
      rcases Nat.eq_zero_or_pos (Sort.bitsLen n) with h | h
      · have := h1.1 (by omega); omega
      · exact h
    have h4 : 2 ^ (Sort.bitsLen n - 1) ≤ n := by
      rcases Nat.lt_or_ge n (2 ^ (Sort.bitsLen n - 1)) with h | h
      · have := h2.2 h; omega
      · exact h
    have h5 : 2 ^ Sort.bitsLen n = 2 ^ (Sort.bitsLen n - 1) * 2 := by
      rw [← Nat.pow_succ]; congr 1; omega
    omega

theorem xorNext (c X : Nat) (hX : X < 18446744073709551616) (w : World) (hr : w.rowIs c 110 1 (fun _ => .int .u64 (X : Int))) :
    Calls Yba.prog 28 #[.pointer (some ⟨c, 0, none⟩)] w fun e w' => ∃ Y : Nat, e = .returned (.int .u64 Y) ∧ Y < 18446744073709551616 ∧ w' = (w.setCell ⟨c, 0, none⟩ (.int .u64 (Y : Int))).drewN 3 := by
  refine (AnyF.xorshift_Next Yba.xorNext c 0 X hX w (hr.cell (by omega)) (hr.frozen 0)).mono fun e w' ⟨he, hw⟩ => ⟨_, he, Sort.xorNextN_lt X hX, hw⟩

set_option maxHeartbeats 4000000 in
theorem breakPatterns (b C n cap lo hi : Nat) (d : Nat → Nat) (w : World) (hr : w.rowIs b 26 C (row d)) (hlo : lo + 12 < hi) (hhi : hi ≤ n) (hn : n ≤ C) (hC : n ≤ 1000000) :
    Calls Yba.prog 17 #[.slice (some ⟨b, 0, none⟩) n cap, .int .i64 lo, .int .i64 hi] w fun e w' => e = .returned (.tuple #[]) ∧ Left b C lo hi d w w' (fun _ => True) := by
  obtain ⟨m, hm⟩ : ∃ m, hi = lo + m := ⟨hi - lo, by omega⟩
  obtain ⟨q, hq⟩ : ∃ q, q = m / 4 := ⟨_, rfl⟩
  have em : Hid ((hi : Int) - (lo : Int) = (m : Int)) := by show _ = _; omega
  have eq : Hid ((m : Int) / 4 = (q : Int)) := by show _ = _; omega
  have hq3 : 3 ≤ q := by omega
  have hq4 : 4 * q ≤ m := by omega
  have hmC : m ≤ 1000000 := by omega
  have hqC : q ≤ 1000000 := by omega
  have hlC : lo ≤ 1000000 := by omega
  have hm8 : 8 ≤ m := by omega
  have hmn : lo + m ≤ n := by omega
  have hbc : b < w.heap.size := hr.lt
  obtain ⟨z, hz⟩ : ∃ z, z = lo + q * 2 := ⟨_, rfl⟩
  have ez : Hid ((lo : Int) + (q : Int) * 2 = (z : Int)) := by show _ = _; omega
  have hz1 : lo + 1 < z ∧ z + 2 < lo + m := by omega
  replace hm := hide hm
  clear hq
  replace hz := hide hz
  replace hr := hide hr
  go_enter Yba.func17, Yba.ntmps17
  go_wp2_with fail
  rw [em.out]
  obtain ⟨w1, hw1⟩ : ∃ w1, w.alloc (.cells #[.int .u64 (m : Int)] 110) = w1 := ⟨_, rfl⟩
  have R1 : Hid (w1.rowIs w.heap.size 110 1 (fun _ => .int .u64 (m : Int))) := hw1 ▸ World.rowIs_alloc w #[.int .u64 (m : Int)] 110 _ (by
    intro i hi
    have hi' : i < 1 := hi
    have e : i = 0 := by omega
    subst e
    rfl)
  have R2 : Hid (w1.rowIs b 26 C (row d)) := hw1 ▸ hr.out.alloc _
  have B1 : Hid (Below b w w1) := hw1 ▸ (Below.refl _ _).alloc (Nat.le_of_lt hbc) _
  rw [hw1]
  clear hw1 hr
  refine (nextPow m (by omega) hmC _).mono ?_
  rintro e w1' ⟨⟨M, rfl, hM0, hM2⟩, rfl⟩
  have eq' := eq.out
  have ez' := ez.out
  go_wp2
  go_loopw [9] (fun vi wr => ∃ (i X : Nat) (dk : Nat → Nat), vi = .int .i64 i ∧ z ≤ i + 1 ∧ i ≤ z + 2 ∧ X < 18446744073709551616 ∧ wr.rowIs b 26 C (row dk) ∧ wr.rowIs w.heap.size 110 1 (fun _ => .int .u64 (X : Int)) ∧ Below b w wr ∧ Mi lo hi d dk) (fun vi _ => z + 2 - nat vi)
  case atStart => exact ⟨z - 1, m, d, by congr 1; omega, by omega, by omega, by omega, R2.out, R1.out, B1.out, Mi.refl _ _ _⟩
  case round =>
    clear R1 R2 B1
    obtain ⟨i, X, dk, rfl, h1, h2, hX, hrk, hxk, hbk, hmk⟩ := hrel
    replace hrk := hide hrk
    replace hxk := hide hxk
    go_wp2_with fail
    · have hi1 : i ≤ z + 1 := by omega
      refine (xorNext w.heap.size X hX wr hxk.out).mono ?_
      rintro e w2 ⟨Y, rfl, hY, rfl⟩
      obtain ⟨w3, hw3⟩ : ∃ w3, (wr.setCell ⟨w.heap.size, 0, none⟩ (.int .u64 (Y : Int))).drewN 3 = w3 := ⟨_, rfl⟩
      rw [hw3]
      have R3 : Hid (w3.rowIs b 26 C (row dk)) := hw3 ▸ rowIs_drewN (hrk.out.setOther (by simp; omega) _) 3
      have X3 : Hid (w3.rowIs w.heap.size 110 1 (fun _ => .int .u64 (Y : Int))) := hw3 ▸ rowIs_drewN ((hxk.out.set 0 _).congr fun t ht => by rw [if_pos (by omega)]) 3
      have B3 : Hid (Below b w w3) := hw3 ▸ Below_drewN (hbk.setCell (by simp; omega) _) 3
      clear hw3 hrk hxk hbk
      obtain ⟨A, hA⟩ : ∃ A, Y &&& (M - 1) = A := ⟨_, rfl⟩
      have hAM : A < M := by have : Y &&& (M - 1) ≤ M - 1 := Nat.and_le_right; omega
      have hand : bits .and .u64 (Y : Int) ((M : Int) - 1) = (A : Int) := by
        rw [show (M : Int) - 1 = ((M - 1 : Nat) : Int) by omega, bits_and_u64_nat _ _ hY (by omega), hA]
      clear hA
      go_wp2
      · have hAm : m ≤ A := by omega
        obtain ⟨O, hO⟩ : ∃ O, A - m = O := ⟨_, rfl⟩
        rw [show (A : Int) - (m : Int) = (O : Int) by omega]
        have hOm : O < m := by omega
        clear hO
        have hc1 : w3.cell? ⟨b, i, none⟩ = some (.int .u32 (dk i)) := R3.out.cell (by omega)
        have hc2 : w3.cell? ⟨b, lo + O, none⟩ = some (.int .u32 (dk (lo + O))) := R3.out.cell (by omega)
        have hf3 : ∀ t, w3.frozen? ⟨b, t, none⟩ = false := fun t => R3.out.frozen t
        have hin : i < n := by omega
        have hOn : lo + O < n := by omega
        by_cases hio : i = lo + O
        · have hio' := hide hio
          rw [← hio] at hc2 hOn
          have hco : (lo : Int) + (O : Int) = (i : Int) := by omega
          clear hio
          go_region
          all_goals go_wp2
          go_roundw
          case rel => exact ⟨i + 1, Y, sw dk i i, by go_num, by omega, by omega, hY, row_sw (rowIs_drewN R3.out _) i i, ((rowIs_drewN X3.out _).setOther (by simp; omega) _).setOther (by simp; omega) _, below_sw (Below_drewN B3.out _) (Nat.le_refl _) _ _ _ _, hmk.trans (Mi.sw _ (by have := hm.out; omega) (by have := hm.out; omega) (by have := hm.out; omega) (by have := hm.out; omega))⟩
          case measure => simp [nat]; omega
        · have hio' : i < lo + O ∨ lo + O < i := by omega
          clear hio
          go_region
          all_goals go_wp2
          go_roundw
          case rel => exact ⟨i + 1, Y, sw dk i (lo + O), by go_num, by omega, by omega, hY, row_sw (rowIs_drewN R3.out _) i (lo + O), ((rowIs_drewN X3.out _).setOther (by simp; omega) _).setOther (by simp; omega) _, below_sw (Below_drewN B3.out _) (Nat.le_refl _) _ _ _ _, hmk.trans (Mi.sw _ (by have := hm.out; omega) (by have := hm.out; omega) (by have := hm.out; omega) (by have := hm.out; omega))⟩
          case measure => simp [nat]; omega
      · have hAm : A < m := by omega
        have hc1 : w3.cell? ⟨b, i, none⟩ = some (.int .u32 (dk i)) := R3.out.cell (by omega)
        have hc2 : w3.cell? ⟨b, lo + A, none⟩ = some (.int .u32 (dk (lo + A))) := R3.out.cell (by omega)
        have hf3 : ∀ t, w3.frozen? ⟨b, t, none⟩ = false := fun t => R3.out.frozen t
        have hin : i < n := by omega
        have hOn : lo + A < n := by omega
        by_cases hio : i = lo + A
        · have hio' := hide hio
          rw [← hio] at hc2 hOn
          have hco : (lo : Int) + (A : Int) = (i : Int) := by omega
          clear hio
          go_region
          all_goals go_wp2
          go_roundw
          case rel => exact ⟨i + 1, Y, sw dk i i, by go_num, by omega, by omega, hY, row_sw (rowIs_drewN R3.out _) i i, ((rowIs_drewN X3.out _).setOther (by simp; omega) _).setOther (by simp; omega) _, below_sw (Below_drewN B3.out _) (Nat.le_refl _) _ _ _ _, hmk.trans (Mi.sw _ (by have := hm.out; omega) (by have := hm.out; omega) (by have := hm.out; omega) (by have := hm.out; omega))⟩
          case measure => simp [nat]; omega
        · have hio' : i < lo + A ∨ lo + A < i := by omega
          clear hio
          go_region
          all_goals go_wp2
          go_roundw
          case rel => exact ⟨i + 1, Y, sw dk i (lo + A), by go_num, by omega, by omega, hY, row_sw (rowIs_drewN R3.out _) i (lo + A), ((rowIs_drewN X3.out _).setOther (by simp; omega) _).setOther (by simp; omega) _, below_sw (Below_drewN B3.out _) (Nat.le_refl _) _ _ _ _, hmk.trans (Mi.sw _ (by have := hm.out; omega) (by have := hm.out; omega) (by have := hm.out; omega) (by have := hm.out; omega))⟩
          case measure => simp [nat]; omega
    · go_end0
      exact ⟨rfl, hbk, dk, hrk.out, hmk, trivial⟩
end Go.Proofs.Ybulkdfzs.S
