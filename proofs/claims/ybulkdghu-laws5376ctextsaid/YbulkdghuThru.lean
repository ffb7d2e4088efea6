import Derived.Test.YbulkdghuCmp
import Derived.Deep.QuietTactic
import Derived.BigQuiet
namespace Go.Proofs.Ybulkdghu.T
open Go.RowKit
set_option linter.unusedVariables false
set_option linter.unusedSimpArgs false
set_option maxRecDepth 100000

/-- What compareThrough answers, on the bytes. -/
def ct (a b : List UInt8) (sep : Int) : Int :=
  if Lib.compareBytes (a.take (min a.length b.length)) (b.take (min a.length b.length)) ≠ 0 then Lib.compareBytes (a.take (min a.length b.length)) (b.take (min a.length b.length))
  else if a.length < b.length then cmpI sep ((b.getD a.length 0).toNat : Int) else if b.length < a.length then cmpI ((a.getD b.length 0).toNat : Int) sep else 0

theorem ct_lt {a b : List UInt8} {sep : Int} (h : a.length < b.length) : ct a b sep = if Lib.compareBytes a (b.take a.length) ≠ 0 then Lib.compareBytes a (b.take a.length) else cmpI sep ((b.getD a.length 0).toNat : Int) := by
  unfold ct
  rw [Nat.min_eq_left (Nat.le_of_lt h), List.take_length, if_pos h]
theorem ct_gt {a b : List UInt8} {sep : Int} (h : b.length < a.length) : ct a b sep = if Lib.compareBytes (a.take b.length) b ≠ 0 then Lib.compareBytes (a.take b.length) b else cmpI ((a.getD b.length 0).toNat : Int) sep := by
  unfold ct
  rw [Nat.min_eq_right (Nat.le_of_lt h), List.take_length, if_pos h, if_neg (show ¬ a.length < b.length from by omega)]
theorem ct_eq {a b : List UInt8} {sep : Int} (h : a.length = b.length) : ct a b sep = Lib.compareBytes a b := by
  unfold ct
  rw [h, Nat.min_self, List.take_length, ← h, List.take_length]
  simp only [Nat.lt_irrefl, if_false]
  split <;> simp_all
theorem ret_int {k : IntKind} {a b : Int} (h : a = b) : Ending.returned (.int k a) = .returned (.int k b) := by rw [h]
theorem len_size (a : ByteArray) : a.data.toList.length = a.size := Array.length_toList
theorem at_data (b : ByteArray) (i : Nat) (h : i < b.size) : (b.data.toList.getD i 0) = b[i]'h := by
  have h3 : i < b.data.toList.length := by rw [len_size]; exact h
  rw [List.getD_eq_getElem?_getD, List.getElem?_eq_getElem h3]
  rfl

set_option maxHeartbeats 1000000 in
theorem thru_lt (a b : ByteArray) (sep : Int) (w : World) (ha : a.size ≤ 1000) (hb : b.size ≤ 1000) (h : a.size < b.size) :
    Calls Yba.prog 11 #[.string a, .string b, .int .u8 sep] w fun e w' => e = .returned (.int .i64 (ct a.data.toList b.data.toList sep)) ∧ ∃ q, w' = w.drewN q := by
  have hct := hide (ct_lt (sep := sep) (show a.data.toList.length < b.data.toList.length from by rw [len_size, len_size]; exact h))
  rw [len_size] at hct
  have hat := hide (at_data b a.size h)
  have hex := hide (show (b.extract 0 a.size).data.toList = b.data.toList.take a.size from by simp)
  have hlt : (a.size : Int) < (b.size : Int) := by omega
  by_cases hc : Lib.compareBytes a.data.toList (b.data.toList.take a.size) = 0
  · have hd : (Lib.compareBytes a.data.toList (List.take a.size b.data.toList) != 0) = false := by simp [hc]
    have hc' := hide hc
    clear hc
    go_enter Yba.func11, Yba.ntmps11
    go_wp2
    go_quiet ((go_at_call 7; exact Calls.quiet_of_same (compare_any _ _ _)))
    go_wp2_with (go_at_call 13; refine (cmpByte _ _ _).mono ?_; rintro e w' ⟨rfl, rfl⟩)
    go_ret
    refine ⟨ret_int ?_, _, rfl⟩
    rw [hct.out, if_neg (by simp [hc'.out]), hat.out]
  · have hd : (Lib.compareBytes a.data.toList (List.take a.size b.data.toList) != 0) = true := by simp [hc]
    have hc' := hide hc
    clear hc
    go_enter Yba.func11, Yba.ntmps11
    go_wp2
    go_quiet ((go_at_call 7; exact Calls.quiet_of_same (compare_any _ _ _)))
    go_wp2
    go_ret
    refine ⟨ret_int ?_, _, rfl⟩
    rw [hct.out, if_pos hc'.out, ← hex.out]

set_option maxHeartbeats 1000000 in
theorem thru_gt (a b : ByteArray) (sep : Int) (w : World) (ha : a.size ≤ 1000) (hb : b.size ≤ 1000) (h : b.size < a.size) :
    Calls Yba.prog 11 #[.string a, .string b, .int .u8 sep] w fun e w' => e = .returned (.int .i64 (ct a.data.toList b.data.toList sep)) ∧ ∃ q, w' = w.drewN q := by
  have hct := hide (ct_gt (sep := sep) (show b.data.toList.length < a.data.toList.length from by rw [len_size, len_size]; exact h))
  rw [len_size] at hct
  have hat := hide (at_data a b.size h)
  have hex := hide (show (a.extract 0 b.size).data.toList = a.data.toList.take b.size from by simp)
  have hlt : (b.size : Int) < (a.size : Int) := by omega
  by_cases hc : Lib.compareBytes (a.data.toList.take b.size) b.data.toList = 0
  · have hd : (Lib.compareBytes (List.take b.size a.data.toList) b.data.toList != 0) = false := by simp [hc]
    have hc' := hide hc
    clear hc
    go_enter Yba.func11, Yba.ntmps11
    go_wp2
    go_quiet ((go_at_call 7; exact Calls.quiet_of_same (compare_any _ _ _)))
    go_wp2_with (go_at_call 13; refine (cmpByte _ _ _).mono ?_; rintro e w' ⟨rfl, rfl⟩)
    go_ret
    refine ⟨ret_int ?_, _, rfl⟩
    rw [hct.out, if_neg (by simp [hc'.out]), hat.out]
  · have hd : (Lib.compareBytes (List.take b.size a.data.toList) b.data.toList != 0) = true := by simp [hc]
    have hc' := hide hc
    clear hc
    go_enter Yba.func11, Yba.ntmps11
    go_wp2
    go_quiet ((go_at_call 7; exact Calls.quiet_of_same (compare_any _ _ _)))
    go_wp2
    go_ret
    refine ⟨ret_int ?_, _, rfl⟩
    rw [hct.out, if_pos hc'.out, ← hex.out]

set_option maxHeartbeats 1000000 in
theorem thru_eq (a b : ByteArray) (sep : Int) (w : World) (ha : a.size ≤ 1000) (hb : b.size ≤ 1000) (h : a.size = b.size) :
    Calls Yba.prog 11 #[.string a, .string b, .int .u8 sep] w fun e w' => e = .returned (.int .i64 (ct a.data.toList b.data.toList sep)) ∧ ∃ q, w' = w.drewN q := by
  have hct := hide (ct_eq (sep := sep) (show a.data.toList.length = b.data.toList.length from by rw [len_size, len_size]; exact h))
  have h' := hide h
  have hle1 : (a.size : Int) ≤ (b.size : Int) := by omega
  have hle2 : (b.size : Int) ≤ (a.size : Int) := by omega
  have hn1 : a.size ≤ b.size := by omega
  have hn2 : b.size ≤ a.size := by omega
  have htk : b.data.toList.take a.size = b.data.toList := List.take_of_length_le (by rw [len_size]; omega)
  have hex := hide (show (b.extract 0 a.size).data.toList = b.data.toList from by rw [← htk]; simp)
  have htk' := hide htk
  have ne1 : ¬ (a.size : Int) < (b.size : Int) := by omega
  have ne2 : ¬ (b.size : Int) < (a.size : Int) := by omega
  by_cases hc : Lib.compareBytes a.data.toList (b.data.toList.take a.size) = 0
  · have hd : (Lib.compareBytes a.data.toList (List.take a.size b.data.toList) != 0) = false := by simp [hc]
    have hc' := hide hc
    clear hc htk h
    go_enter Yba.func11, Yba.ntmps11
    go_wp2
    go_quiet ((go_at_call 7; exact Calls.quiet_of_same (compare_any _ _ _)))
    go_wp2
    go_ret
    refine ⟨ret_int ?_, _, rfl⟩
    rw [hct.out, ← htk'.out, hc'.out]
  · have hd : (Lib.compareBytes a.data.toList (List.take a.size b.data.toList) != 0) = true := by simp [hc]
    clear hc htk h
    go_enter Yba.func11, Yba.ntmps11
    go_wp2
    go_quiet ((go_at_call 7; exact Calls.quiet_of_same (compare_any _ _ _)))
    go_wp2
    go_ret
    refine ⟨ret_int ?_, _, rfl⟩
    rw [hct.out]
    show Lib.compareBytes a.data.toList (b.extract 0 a.size).data.toList = _
    rw [hex.out]

/-- compareThrough. -/
theorem thru_any (a b : ByteArray) (sep : Int) (w : World) (ha : a.size ≤ 1000) (hb : b.size ≤ 1000) :
    Calls Yba.prog 11 #[.string a, .string b, .int .u8 sep] w fun e w' => e = .returned (.int .i64 (ct a.data.toList b.data.toList sep)) ∧ ∃ q, w' = w.drewN q := by
  rcases Nat.lt_trichotomy a.size b.size with h | h | h
  · exact thru_lt a b sep w ha hb h
  · exact thru_eq a b sep w ha hb h
  · exact thru_gt a b sep w ha hb h

/-- What CompareObjects answers. -/
def co (at_ ai bt bi : List UInt8) : Int := if ct at_ bt 58 ≠ 0 then ct at_ bt 58 else Lib.compareBytes ai bi
/-- What CompareSubjects answers. -/
def cs (at_ ai ar bt bi br : List UInt8) : Int := if co at_ ai bt bi ≠ 0 then co at_ ai bt bi else Lib.compareBytes ar br

theorem below2 (w : World) (x y : Obj) (q : Nat) : Below w.heap.size w (((w.alloc x).alloc y).drewN q) := by
  have h := ((Below.refl w.heap.size w).alloc (Nat.le_refl _) x).alloc (by simp) y
  exact ⟨h.os, h.tape, h.output, h.size, h.block⟩

theorem cell_a (w : World) (x y : Obj) (w1 : World) (hb : Below ((w.alloc x).alloc y).heap.size ((w.alloc x).alloc y) w1) (i : Nat) : w1.cell? ⟨w.heap.size, i, none⟩ = (w.alloc x).cell? ⟨w.heap.size, i, none⟩ := by
  have h : w1.heap[w.heap.size]? = (w.alloc x).heap[w.heap.size]? := (hb.block w.heap.size (by show w.heap.size < ((w.heap.push x).push y).size; simp; omega)).trans (Below.heap_alloc (w.alloc x) y w.heap.size (by show w.heap.size < (w.heap.push x).size; simp))
  exact World.cell?_of_block (a := ⟨w.heap.size, i, none⟩) h
theorem cell_b (w : World) (x y : Obj) (w1 : World) (hb : Below ((w.alloc x).alloc y).heap.size ((w.alloc x).alloc y) w1) (i : Nat) : w1.cell? ⟨w.heap.size + 1, i, none⟩ = ((w.alloc x).alloc y).cell? ⟨w.heap.size + 1, i, none⟩ :=
  hb.cell (p := ⟨w.heap.size + 1, i, none⟩) (by show w.heap.size + 1 < ((w.heap.push x).push y).size; simp)

set_option maxHeartbeats 1000000 in
theorem objects_any (at_ ai bt bi : ByteArray) (w : World) (ha : at_.size ≤ 1000) (hb : bt.size ≤ 1000) :
    Calls Yba.prog 9 #[.agg #[.string at_, .string ai], .agg #[.string bt, .string bi]] w fun e w' => e = .returned (.int .i64 (co at_.data.toList ai.data.toList bt.data.toList bi.data.toList)) ∧ Below w.heap.size w w' := by
  have hth := hide (fun w => thru_any at_ bt 58 w ha hb)
  unfold co
  generalize ct at_.data.toList bt.data.toList 58 = c at hth
  by_cases hc : c = 0
  · subst hc
    go_enter Yba.func9, Yba.ntmps9
    go_wp2_with (first | (go_at_call 11; refine (hth.out _).mono ?_; rintro e w' ⟨rfl, q, rfl⟩) | (go_at_call 7; refine (compare_any _ _ _).mono ?_; rintro e w' ⟨rfl, rfl⟩))
    go_ret
    exact ⟨rfl, below2 _ _ _ _⟩
  · have hd : (c != 0) = true := by simp [hc]
    rw [if_pos hc]
    clear hc
    go_enter Yba.func9, Yba.ntmps9
    go_wp2_with (first | (go_at_call 11; refine (hth.out _).mono ?_; rintro e w' ⟨rfl, q, rfl⟩))
    go_ret
    exact ⟨rfl, below2 _ _ _ _⟩

set_option maxHeartbeats 1000000 in
theorem subjects_any (at_ ai ar bt bi br : ByteArray) (w : World) (ha : at_.size ≤ 1000) (hb : bt.size ≤ 1000) :
    Calls Yba.prog 6 #[.agg #[.string at_, .string ai, .string ar], .agg #[.string bt, .string bi, .string br]] w fun e w' => e = .returned (.int .i64 (cs at_.data.toList ai.data.toList ar.data.toList bt.data.toList bi.data.toList br.data.toList)) ∧ Below w.heap.size w w' := by
  have hob := hide (fun w => objects_any at_ ai bt bi w ha hb)
  unfold cs
  generalize co at_.data.toList ai.data.toList bt.data.toList bi.data.toList = c at hob
  by_cases hc : c = 0
  · subst hc
    go_enter Yba.func6, Yba.ntmps6
    go_wp2_with fail
    refine (hob.out _).mono ?_
    rintro e w1 ⟨rfl, hb1⟩
    have x1 := cell_a w _ _ _ hb1 2
    have x2 := cell_b w _ _ _ hb1 2
    have hB := hide ((below2 w _ _ 0).trans (hb1.mono (by show w.heap.size ≤ ((w.heap.push _).push _).size; simp; omega)))
    simp at x1 x2
    clear hb1
    go_wp2_with (go_at_call 7; refine (compare_any _ _ _).mono ?_; rintro e w' ⟨rfl, rfl⟩)
    go_ret
    exact ⟨rfl, hB.out⟩
  · have hd : (c != 0) = true := by simp [hc]
    rw [if_pos hc]
    clear hc
    go_enter Yba.func6, Yba.ntmps6
    go_wp2_with fail
    refine (hob.out _).mono ?_
    rintro e w1 ⟨rfl, hb1⟩
    have hB := hide ((below2 w _ _ 0).trans (hb1.mono (by show w.heap.size ≤ ((w.heap.push _).push _).size; simp; omega)))
    clear hb1
    go_wp2
    go_ret
    exact ⟨rfl, hB.out⟩
end Go.Proofs.Ybulkdghu.T
