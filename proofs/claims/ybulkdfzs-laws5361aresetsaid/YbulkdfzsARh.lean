import Derived.Test.YbulkdfzsARa
import Derived.Test.YbulkdfzsARb
import Derived.Test.YbulkdfzsARc
import Derived.Test.YbulkdfzsARd
import Derived.Test.YbulkdfzsARe
import Derived.Test.YbulkdfzsARf
import Derived.Test.YbulkdfzsARg
namespace Go.Proofs.Ybulkdfzs.AR
open Go.RowKit
set_option linter.unusedVariables false
set_option linter.unusedSimpArgs false
set_option maxRecDepth 100000

theorem R3 : seqRest 3 (bodyOf Yba.f3) = Code.seq (seqPart 3 (bodyOf Yba.f3)) (seqRest 4 (bodyOf Yba.f3)) := by kernel_rfl
theorem R4 : seqRest 4 (bodyOf Yba.f3) = Code.seq (seqPart 4 (bodyOf Yba.f3)) (seqRest 5 (bodyOf Yba.f3)) := by kernel_rfl
theorem R5 : seqRest 5 (bodyOf Yba.f3) = Code.seq (seqPart 5 (bodyOf Yba.f3)) (seqRest 6 (bodyOf Yba.f3)) := by kernel_rfl
theorem R8 : seqRest 8 (bodyOf Yba.f3) = Code.seq (seqPart 8 (bodyOf Yba.f3)) (seqRest 9 (bodyOf Yba.f3)) := by kernel_rfl
theorem R9 : seqRest 9 (bodyOf Yba.f3) = Code.seq (seqPart 9 (bodyOf Yba.f3)) (seqRest 10 (bodyOf Yba.f3)) := by kernel_rfl
theorem R10 : seqRest 10 (bodyOf Yba.f3) = Code.seq (seqPart 10 (bodyOf Yba.f3)) (seqRest 11 (bodyOf Yba.f3)) := by kernel_rfl
theorem R15 : seqRest 15 (bodyOf Yba.f3) = Code.seq (seqPart 15 (bodyOf Yba.f3)) (seqRest 16 (bodyOf Yba.f3)) := by kernel_rfl
theorem R20 : seqRest 20 (bodyOf Yba.f3) = Code.seq (seqPart 20 (bodyOf Yba.f3)) (seqRest 21 (bodyOf Yba.f3)) := by kernel_rfl
theorem R21 : seqRest 21 (bodyOf Yba.f3) = Code.seq (seqPart 21 (bodyOf Yba.f3)) (seqRest 22 (bodyOf Yba.f3)) := by kernel_rfl
theorem R22 : seqRest 22 (bodyOf Yba.f3) = Code.seq (seqPart 22 (bodyOf Yba.f3)) (seqRest 23 (bodyOf Yba.f3)) := by kernel_rfl
theorem R23 : seqRest 23 (bodyOf Yba.f3) = Code.seq (seqPart 23 (bodyOf Yba.f3)) (seqRest 24 (bodyOf Yba.f3)) := by kernel_rfl
theorem R0 : (bodyOf Yba.f3) = Code.seq (seqPart 0 (bodyOf Yba.f3)) (Code.seq (seqPart 1 (bodyOf Yba.f3)) (Code.seq (seqPart 2 (bodyOf Yba.f3)) (seqRest 3 (bodyOf Yba.f3)))) := by kernel_rfl
theorem R6 : seqRest 6 (bodyOf Yba.f3) = Code.seq (seqPart 6 (bodyOf Yba.f3)) (Code.seq (seqPart 7 (bodyOf Yba.f3)) (seqRest 8 (bodyOf Yba.f3))) := by kernel_rfl
theorem R11 : seqRest 11 (bodyOf Yba.f3) = Code.seq (seqPart 11 (bodyOf Yba.f3)) (Code.seq (seqPart 12 (bodyOf Yba.f3)) (Code.seq (seqPart 13 (bodyOf Yba.f3)) (Code.seq (seqPart 14 (bodyOf Yba.f3)) (seqRest 15 (bodyOf Yba.f3))))) := by kernel_rfl
theorem R16 : seqRest 16 (bodyOf Yba.f3) = Code.seq (seqPart 16 (bodyOf Yba.f3)) (Code.seq (seqPart 17 (bodyOf Yba.f3)) (Code.seq (seqPart 18 (bodyOf Yba.f3)) (Code.seq (seqPart 19 (bodyOf Yba.f3)) (seqRest 20 (bodyOf Yba.f3))))) := by kernel_rfl

/-- What stands in every slot of a frame. -/
theorem keep_self (K : List Nat) (a : Act) : Keep K (fun i => slot a i) a := fun _ _ => rfl

theorem below_of_touch {w w' : World} {B W O X : Nat} (h : w'.os = w.os ∧ w'.tape = w.tape ∧ w'.output = w.output ∧ w.heap.size ≤ w'.heap.size ∧ ∀ k, k < w.heap.size → k ≠ W → k ≠ O → k ≠ X → w'.heap[k]? = w.heap[k]?) (hB : B ≤ w.heap.size) (hW : B ≤ W) (hO : B ≤ O) (hX : B ≤ X) : Below B w w' :=
  ⟨h.1, h.2.1, h.2.2.1, h.2.2.2.1, fun k hk => h.2.2.2.2 k (by omega) (by omega) (by omega) (by omega)⟩

theorem arg_later {k : IntKind} {w w' : World} {a : Option Addr} {len : Nat} {zs : List Int} (h : Arg k w a len zs) (hb : Below w.heap.size w w') : Arg k w' a len zs := by
  intro i hi
  obtain ⟨b, off, e, hc, hlt⟩ := h i hi
  exact ⟨b, off, e, (hb.cell (p := ⟨b, off + i, none⟩) hlt).trans hc, by have := hb.size; omega⟩

set_option maxHeartbeats 2000000 in
theorem walk_small (a0 : Option Addr) (l0 c0 : Nat) (z0 : List Int) (a1 : Option Addr) (l1 c1 : Nat) (z1 : List Int) (x : Int) (depth fin : Int) (cnt : Bool) (w : World) (hl0 : l0 ≤ 1024) (hl1 : l1 ≤ 1024)
    (harg0 : Arg .u32 w a0 l0 z0) (harg1 : Arg .u8 w a1 l1 z1) (hwf : ∀ i, 0 ≤ z1.getD i 0 ∧ z1.getD i 0 ≤ 255) (hx0 : 0 ≤ x) (hx : x ≤ 255) :
    Calls Yba.prog 3 #[.slice a0 l0 c0, .slice a1 l1 c1, .int .u8 x, .int .i64 depth, .int .i64 fin, .bool cnt] w fun e w' => e = .returned (.bool true) ∧ Below w.heap.size w w' := by
  obtain ⟨m, hm⟩ : ∃ m : Nat, x % 8 = (m : Int) := ⟨(x % 8).toNat, by omega⟩
  have hm8 : m < 8 := by omega
  refine calls_of_wp Yba.func3 rfl ?_
  show Code.wp Yba.prog (bodyOf Yba.f3) _ _ _
  have hF0 : Fr 299 { tmps := #[.slice a0 l0 c0, .slice a1 l1 c1, .int .u8 x, .int .i64 depth, .int .i64 fin, .bool cnt] ++ Array.replicate (Yba.f3.ntmps - (#[.slice a0 l0 c0, .slice a1 l1 c1, .int .u8 x, .int .i64 depth, .int .i64 fin, .bool cnt] : Array Value).size) undef, defers := [] } := ⟨by kernel_rfl, rfl⟩
  generalize hA : ({ tmps := #[.slice a0 l0 c0, .slice a1 l1 c1, .int .u8 x, .int .i64 depth, .int .i64 fin, .bool cnt] ++ Array.replicate (Yba.f3.ntmps - (#[.slice a0 l0 c0, .slice a1 l1 c1, .int .u8 x, .int .i64 depth, .int .i64 fin, .bool cnt] : Array Value).size) undef, defers := [] } : Act) = A at hF0 ⊢
  have t0 : slot A 0 = .slice a0 l0 c0 := by rw [← hA]; kernel_rfl
  have t1 : slot A 1 = .slice a1 l1 c1 := by rw [← hA]; kernel_rfl
  have t2 : slot A 2 = .int .u8 x := by rw [← hA]; kernel_rfl
  have t3 : slot A 3 = .int .i64 depth := by rw [← hA]; kernel_rfl
  have t4 : slot A 4 = .int .i64 fin := by rw [← hA]; kernel_rfl
  have t5 : slot A 5 = .bool cnt := by rw [← hA]; kernel_rfl
  clear hA
  rw [R0]
  -- the stack
  refine seg0 a0 a1 l0 c0 l1 c1 hl0 hl1 (fun i => slot A i) _ A w _ hF0 t0 t1 (keep_self _ _) (hide ?_)
  intro A1 hF1 u0 u1 u13 hK1
  have u2 := (hK1 2 (by simp)).trans t2
  have u3 := (hK1 3 (by simp)).trans t3
  have u4 := (hK1 4 (by simp)).trans t4
  have u5 := (hK1 5 (by simp)).trans t5
  clear hK1 t0 t1 t2 t3 t4 t5 hF0 A
  have hrow0 : (w.alloc (.cells (madeCells #[.int .u32 0, .int .i32 0, .bool false, .bool false] (l0 * 4)) 28)).rowIs w.heap.size 28 (l0 * 4) (stF z0 0) := by
    refine rowIs_make w _ _ _ _ fun j _ => ?_
    have c : j % 4 = 0 ∨ j % 4 = 1 ∨ j % 4 = 2 ∨ j % 4 = 3 := by omega
    unfold stF
    rcases c with c | c | c | c <;> simp [c]
  have hb0 : Below w.heap.size w (w.alloc (.cells (madeCells #[.int .u32 0, .int .i32 0, .bool false, .bool false] (l0 * 4)) 28)) := (Below.refl _ _).alloc (Nat.le_refl _) _
  generalize (w.alloc (.cells (madeCells #[.int .u32 0, .int .i32 0, .bool false, .bool false] (l0 * 4)) 28)) = w1 at hrow0 hb0 ⊢
  rw [R3]
  refine wp_seq (seg3 w.heap.size a0 l0 c0 z0 hl0 w (Nat.le_refl _) harg0 (fun i => slot A1 i) A1 w1 _ hF1 u0 u13 (keep_self _ _) hrow0 hb0 (hide ?_))
  intro A2 w2 hF2 s0 s13 hK2 hS2 hb2
  have s1 := (hK2 1 (by simp)).trans u1
  have s2 := (hK2 2 (by simp)).trans u2
  have s3 := (hK2 3 (by simp)).trans u3
  have s4 := (hK2 4 (by simp)).trans u4
  have s5 := (hK2 5 (by simp)).trans u5
  clear hK2 u0 u1 u2 u3 u4 u5 u13 hF1 A1 hrow0 hb0 w1
  -- the orders
  show Code.wp Yba.prog (seqRest 4 (bodyOf Yba.f3)) _ _ _
  rw [R4]
  refine wp_seq (seg4 a1 l1 c1 hl1 (fun i => slot A2 i) A2 w2 _ hF2 s1 (keep_self _ _) (hide ?_))
  intro A3 hF3 u1 u16 hK3
  have u0 := (hK3 0 (by simp)).trans s0
  have u2 := (hK3 2 (by simp)).trans s2
  have u3 := (hK3 3 (by simp)).trans s3
  have u4 := (hK3 4 (by simp)).trans s4
  have u5 := (hK3 5 (by simp)).trans s5
  have u13 := (hK3 13 (by simp)).trans s13
  clear hK3 s0 s1 s2 s3 s4 s5 s13 hF2 A2
  have hSlt : w.heap.size < w2.heap.size := hS2.lt
  have hO3 : ∃ f, (w2.alloc (.cells (madeCells #[.slice none 0 0, .slice none 0 0] (l1 * 2)) 37)).rowIs w2.heap.size 37 (l1 * 2) f := ⟨_, rowIs_make w2 _ _ _ (fun j => #[Value.slice none 0 0, .slice none 0 0][j % 2]!) (fun j _ => rfl)⟩
  have hb3 : Below w2.heap.size w2 (w2.alloc (.cells (madeCells #[.slice none 0 0, .slice none 0 0] (l1 * 2)) 37)) := (Below.refl _ _).alloc (Nat.le_refl _) _
  have hsz3 : w2.heap.size < (w2.alloc (.cells (madeCells #[.slice none 0 0, .slice none 0 0] (l1 * 2)) 37)).heap.size := by simp
  generalize (w2.alloc (.cells (madeCells #[.slice none 0 0, .slice none 0 0] (l1 * 2)) 37)) = w3 at hO3 hb3 hsz3 ⊢
  show Code.wp Yba.prog (seqRest 5 (bodyOf Yba.f3)) _ _ _
  rw [R5]
  refine wp_seq (seg5 w2.heap.size a1 l1 c1 z1 hl1 w (Nat.le_of_lt hSlt) harg1 hwf (fun i => slot A3 i) A3 w3 _ hF3 u1 u16 (keep_self _ _) hsz3 hO3 (hb2.trans (hb3.mono (Nat.le_of_lt hSlt))) (hide ?_))
  intro A4 w4 hF4 s1 s16 hK4 hO4 hb4
  have s0 := (hK4 0 (by simp)).trans u0
  have s2 := (hK4 2 (by simp)).trans u2
  have s3 := (hK4 3 (by simp)).trans u3
  have s4 := (hK4 4 (by simp)).trans u4
  have s5 := (hK4 5 (by simp)).trans u5
  have s13 := (hK4 13 (by simp)).trans u13
  clear hK4 u0 u1 u2 u3 u4 u5 u13 u16 hF3 A3
  have hb24 : Below w2.heap.size w2 w4 := hb3.trans hb4
  have hS4 := hS2.of_block (hb24.block w.heap.size hSlt)
  obtain ⟨f4, hO4⟩ := hO4
  have hbw4 : Below w.heap.size w w4 := hb2.trans (hb24.mono (Nat.le_of_lt hSlt))
  have hOlt4 : w2.heap.size < w4.heap.size := hO4.lt
  generalize hOdef : w2.heap.size = O at s16 hO4 hOlt4 hSlt
  generalize hSdef : w.heap.size = S at s13 hS4 hSlt
  clear hb24 hb4 hb3 hsz3 hO3 hb2 hS2 hOdef w2 w3
  -- the other writers
  show Code.wp Yba.prog (seqRest 6 (bodyOf Yba.f3)) _ _ _
  rw [R6]
  refine seg6 x hx0 hx m hm (fun i => slot A4 i) _ A4 w4 _ hF4 s2 (keep_self _ _) (hide ?_)
  intro A5 hF5 u2 u23 u24 hK5
  have u0 := (hK5 0 (by simp)).trans s0
  have u1 := (hK5 1 (by simp)).trans s1
  have u3 := (hK5 3 (by simp)).trans s3
  have u4 := (hK5 4 (by simp)).trans s4
  have u5 := (hK5 5 (by simp)).trans s5
  have u13 := (hK5 13 (by simp)).trans s13
  have u16 := (hK5 16 (by simp)).trans s16
  clear hK5 s0 s1 s2 s3 s4 s5 s13 s16 hF4 A4
  have hT5 : (w4.alloc (.cells (madeCells #[.pointer none] m) 33)).rowIs w4.heap.size 33 m (otF w4.heap.size 0) := (World.rowIs_made w4 (.pointer none) m 33).congr (fun i _ => by simp [otF])
  have hsz5 : (w4.alloc (.cells (madeCells #[.pointer none] m) 33)).heap.size = w4.heap.size + 1 := by simp
  have hb5 : Below w4.heap.size w4 (w4.alloc (.cells (madeCells #[.pointer none] m) 33)) := (Below.refl _ _).alloc (Nat.le_refl _) _
  generalize (w4.alloc (.cells (madeCells #[.pointer none] m) 33)) = w5 at hT5 hsz5 hb5 ⊢
  rw [R8]
  refine wp_seq (seg8 w4.heap.size m hm8 (fun i => slot A5 i) A5 w5 _ hF5 u23 u24 (keep_self _ _) hT5 hsz5 (hide ?_))
  intro A6 w6 hF6 s23 s24 hK6 hT6 hsz6 hb6
  have s0 := (hK6 0 (by simp)).trans u0
  have s1 := (hK6 1 (by simp)).trans u1
  have s3 := (hK6 3 (by simp)).trans u3
  have s4 := (hK6 4 (by simp)).trans u4
  have s5 := (hK6 5 (by simp)).trans u5
  have s13 := (hK6 13 (by simp)).trans u13
  have s16 := (hK6 16 (by simp)).trans u16
  clear hK6 u0 u1 u2 u3 u4 u5 u13 u16 u23 u24 hF5 A5 hT5 hsz5
  have hb46 : Below w4.heap.size w4 w6 := hb5.trans hb6
  have hS6 := hS4.of_block (hb46.block S (by omega))
  have hO6 := hO4.of_block (hb46.block O hOlt4)
  have hbw6 : Below w.heap.size w w6 := hbw4.trans (hb46.mono (by omega))
  generalize hTdef : w4.heap.size = T at s24 hT6 hsz6 hOlt4
  clear hb46 hb6 hb5 hbw4 hO4 hS4 hTdef w4 w5
  -- the spare list
  show Code.wp Yba.prog (seqRest 9 (bodyOf Yba.f3)) _ _ _
  rw [R9]
  refine wp_seq (seg9 m hm8 (fun i => slot A6 i) A6 w6 _ hF6 s23 (keep_self _ _) (hide ?_))
  intro A7 w7 hF7 u23 u26 hK7 hB7 hX7 hsz7 hb7
  have u0 := (hK7 0 (by simp)).trans s0
  have u1 := (hK7 1 (by simp)).trans s1
  have u3 := (hK7 3 (by simp)).trans s3
  have u4 := (hK7 4 (by simp)).trans s4
  have u5 := (hK7 5 (by simp)).trans s5
  have u13 := (hK7 13 (by simp)).trans s13
  have u16 := (hK7 16 (by simp)).trans s16
  have u24 := (hK7 24 (by simp)).trans s24
  clear hK7 s0 s1 s3 s4 s5 s13 s16 s23 s24 hF6 A6
  have hTlt : T < w6.heap.size := by omega
  have hS7 := hS6.of_block (hb7.block S (by omega))
  have hO7 := hO6.of_block (hb7.block O (by omega))
  have hT7 := hT6.of_block (hb7.block T hTlt)
  have hbw7 : Below w.heap.size w w7 := hbw6.trans (hb7.mono (by omega))
  generalize hBdef : w6.heap.size = B at u26 hB7 hX7 hsz7 hTlt hsz6
  clear hb7 hbw6 hS6 hO6 hT6 hBdef w6
  show Code.wp Yba.prog (seqRest 10 (bodyOf Yba.f3)) _ _ _
  rw [R10]
  refine wp_seq (seg10 (B + 1) B T m (otF T m) hm8 (fun i => slot A7 i) A7 w7 _ hF7 u26 u24 (keep_self _ _) hX7 _ hB7 hT7 (fun i => by unfold otF; split <;> rfl) (hide ?_))
  intro A8 w8 hF8 s26 s24 hK8 hB8 hg8 hsz8
  have s0 := (hK8 0 (by simp)).trans u0
  have s1 := (hK8 1 (by simp)).trans u1
  have s3 := (hK8 3 (by simp)).trans u3
  have s4 := (hK8 4 (by simp)).trans u4
  have s5 := (hK8 5 (by simp)).trans u5
  have s13 := (hK8 13 (by simp)).trans u13
  have s16 := (hK8 16 (by simp)).trans u16
  have s23 := (hK8 23 (by simp)).trans u23
  clear hK8 u0 u1 u3 u4 u5 u13 u16 u23 u24 u26 hF7 A7
  have hS8 := hS7.of_block (hg8.block S (by omega) (by simp; omega))
  have hO8 := hO7.of_block (hg8.block O (by omega) (by simp; omega))
  have hT8 := hT7.of_block (hg8.block T (by omega) (by simp; omega))
  have hX8 := (hg8.block (B + 1) (by omega) (by simp)).trans hX7
  have hbw8 : Below w.heap.size w w8 := hbw7.grown hg8 (by omega) (by intro k hk; injection hk with hk; omega)
  rw [hsz7] at hsz8
  clear hg8 hbw7 hS7 hO7 hT7 hX7 hB7 hsz7 w7
  -- the writer
  show Code.wp Yba.prog (seqRest 11 (bodyOf Yba.f3)) _ _ _
  rw [R11]
  refine seg11 (B + 1) S O l0 l1 depth fin cnt _ (fun i => slot A8 i) A8 w8 _ hF8 s3 s4 s5 s13 s16 s26 (keep_self _ _) (hide ?_)
  intro A9 w9 hF9 u13 u16 u26 u27 u30 hK9 hW9 hb9
  have u0 := (hK9 0 (by simp)).trans s0
  have u1 := (hK9 1 (by simp)).trans s1
  have u23 := (hK9 23 (by simp)).trans s23
  have u24 := (hK9 24 (by simp)).trans s24
  clear hK9 s0 s1 s3 s4 s5 s13 s16 s23 s24 s26 hF8 A8
  have hS9 := hS8.of_block (hb9.block S (by omega))
  have hO9 := hO8.of_block (hb9.block O (by omega))
  have hT9 := hT8.of_block (hb9.block T (by omega))
  have hB9 := hB8.of_block (hb9.block B (by omega))
  have hX9 := (hb9.block (B + 1) (by omega)).trans hX8
  have hbw9 : Below w.heap.size w w9 := hbw8.trans (hb9.mono (by omega))
  have hsz9 : w8.heap.size + 3 < w9.heap.size := (Array.getElem?_eq_some_iff.1 hW9).1
  rw [hsz8] at hsz9 u30 hW9
  clear hb9 hbw8 hS8 hO8 hT8 hB8 hX8 hsz8 w8
  rw [R15]
  refine wp_seq (seg15 (B + 2 + 3) O (B + 1) B m S l0 l1 _ _ _ _ _ _ f4 (otF T m) hm8 (fun i => slot A9 i) A9 w9 _ hF9 u30 (keep_self _ _) hW9 hX9 hO9 hB9 (by omega) (by omega) (by omega) (by omega) (by omega) (hide ?_))
  intro A10 w10 G cap hF10 s30 hK10 hG hW10 hX10 hO10 hG10 hGm10 ht10
  have s0 := (hK10 0 (by simp)).trans u0
  have s1 := (hK10 1 (by simp)).trans u1
  have s13 := (hK10 13 (by simp)).trans u13
  have s16 := (hK10 16 (by simp)).trans u16
  have s23 := (hK10 23 (by simp)).trans u23
  have s24 := (hK10 24 (by simp)).trans u24
  have s26 := (hK10 26 (by simp)).trans u26
  have s27 := (hK10 27 (by simp)).trans u27
  clear hK10 u0 u1 u13 u16 u23 u24 u26 u27 u30 hF9 A9
  have hS10 := hS9.of_block (ht10.2.2.2.2 S (by omega) (by omega) (by omega) (by omega))
  have hT10 := hT9.of_block (ht10.2.2.2.2 T (by omega) (by omega) (by omega) (by omega))
  have hbw10 : Below w.heap.size w w10 := hbw9.trans (below_of_touch ht10 (by omega) (by omega) (by omega) (by omega))
  clear ht10 hbw9 hS9 hO9 hT9 hB9 hX9 hW9 hsz9
  -- the checks
  show Code.wp Yba.prog (seqRest 16 (bodyOf Yba.f3)) _ _ _
  rw [R16]
  refine seg16 (B + 2 + 3) O (B + 1) S l0 l1 hl0 hl1 a0 a1 c0 c1 (fun i => slot A10 i) _ A10 w10 _ hF10 s0 s1 s27 s30 (keep_self _ _) hW10 (hide ?_)
  intro A11 hF11 u0 u30 hK11
  have u13 := (hK11 13 (by simp)).trans s13
  have u16 := (hK11 16 (by simp)).trans s16
  have u23 := (hK11 23 (by simp)).trans s23
  have u24 := (hK11 24 (by simp)).trans s24
  have u26 := (hK11 26 (by simp)).trans s26
  clear hK11 s0 s1 s13 s16 s23 s24 s26 s27 s30 hF10 A10 hW10
  rw [R20]
  refine wp_seq (seg20 O l1 hl1 (fun i => slot A11 i) A11 w10 _ hF11 u16 (keep_self _ _) hO10 (hide ?_))
  intro A12 hF12 hK12
  have s0 := (hK12 0 (by simp)).trans u0
  have s13 := (hK12 13 (by simp)).trans u13
  have s23 := (hK12 23 (by simp)).trans u23
  have s24 := (hK12 24 (by simp)).trans u24
  have s26 := (hK12 26 (by simp)).trans u26
  have s30 := (hK12 30 (by simp)).trans u30
  clear hK12 u0 u13 u16 u23 u24 u26 u30 hF11 A11 hO10
  show Code.wp Yba.prog (seqRest 21 (bodyOf Yba.f3)) _ _ _
  rw [R21]
  refine wp_seq (seg21 S a0 l0 c0 z0 hl0 (fun i => slot A12 i) A12 w10 _ hF12 s0 s13 (keep_self _ _) (arg_later harg0 hbw10) hS10 (hide ?_))
  intro A13 q hF13 hK13
  have u23 := (hK13 23 (by simp)).trans s23
  have u24 := (hK13 24 (by simp)).trans s24
  have u26 := (hK13 26 (by simp)).trans s26
  have u30 := (hK13 30 (by simp)).trans s30
  clear hK13 s0 s13 s23 s24 s26 s30 hF12 A12 hS10
  show Code.wp Yba.prog (seqRest 22 (bodyOf Yba.f3)) _ _ _
  rw [R22]
  refine wp_seq (seg22 (B + 2 + 3) (B + 1) G m cap hm8 (fun i => slot A13 i) A13 (w10.drewN q) _ hF13 u23 u26 u30 (keep_self _ _) hX10 hGm10 (hide ?_))
  intro A14 hF14 s23 s26 hK14
  have s24 := (hK14 24 (by simp)).trans u24
  clear hK14 u23 u24 u26 u30 hF13 A13
  show Code.wp Yba.prog (seqRest 23 (bodyOf Yba.f3)) _ _ _
  rw [R23]
  have hG' : ∀ i, i < m → (w10.drewN q).cell? ⟨G, i, none⟩ = some (.pointer (some ⟨T + 1 + i, 0, none⟩)) := fun i hi => by
    have h := hG10 i hi
    unfold otF at h
    rw [if_pos hi] at h
    exact h
  have hT' : ∀ i, i < m → (w10.drewN q).cell? ⟨T, i, none⟩ = some (.pointer (some ⟨T + 1 + i, 0, none⟩)) := fun i hi => by
    have h := hT10.cell hi
    unfold otF at h
    rw [if_pos hi] at h
    exact h
  refine wp_seq (seg23 (B + 1) G T m cap hm8 (fun i => ⟨T + 1 + i, 0, none⟩) (fun _ => undef) A14 (w10.drewN q) _ hF14 s23 s24 s26 hX10 hG' hT' (hide ?_))
  intro A15 q2 hF15
  show Code.wp Yba.prog (seqRest 24 (bodyOf Yba.f3)) _ _ _
  exact seg24 A15 _ _ hF15 (hide ⟨rfl, hbw10.os, hbw10.tape, hbw10.output, hbw10.size, fun k hk => hbw10.block k (by omega)⟩)
end Go.Proofs.Ybulkdfzs.AR
