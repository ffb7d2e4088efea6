import Derived.Test.YbulkdfzsARBase
namespace Go.Proofs.Ybulkdfzs.AR
open Go.RowKit
set_option linter.unusedVariables false
set_option linter.unusedSimpArgs false
set_option maxRecDepth 100000

set_option maxHeartbeats 2000000 in
theorem seg5 (O : Nat) (a1 : Option Addr) (len1 cap1 : Nat) (z1 : List Int) (hlen : len1 ≤ 1024) (w : World) (hO : w.heap.size ≤ O) (harg : Arg .u8 w a1 len1 z1) (hwf : ∀ i, 0 ≤ z1.getD i 0 ∧ z1.getD i 0 ≤ 255)
    (v : Nat → Value) (a : Act) (w1 : World) (Q : Exit → Act → World → Prop) (hF : Fr 299 a) (h1 : slot a 1 = .slice a1 len1 cap1) (h16 : slot a 16 = .slice (some ⟨O, 0, none⟩) len1 len1) (hK : Keep [0, 2, 3, 4, 5, 13] v a)
    (hOw : O < w1.heap.size) (hrow : ∃ f, w1.rowIs O 37 (len1 * 2) f) (hb : Below w.heap.size w w1)
    (hnext : Hid (∀ a' w', Fr 299 a' → slot a' 1 = .slice a1 len1 cap1 → slot a' 16 = .slice (some ⟨O, 0, none⟩) len1 len1 → Keep [0, 2, 3, 4, 5, 13] v a' → (∃ f, w'.rowIs O 37 (len1 * 2) f) → Below O w1 w' → Q .normal a' w')) :
    Code.wp Yba.prog (seqPart 5 (bodyOf Yba.f3)) Q a w1 := by
  obtain ⟨u, rfl, hu⟩ := to_lit hF
  have e1 := (hu 1 (by omega)).symm.trans h1
  have e16 := (hu 16 (by omega)).symm.trans h16
  clear hu hF h1 h16
  have hKK := hide hK
  clear hK
  conv => arg 2; whnf
  rw [e1, e16]
  clear e1 e16
  go_wp2
  refine loop_rule (fun n a w' => ∃ k, n + k = len1 ∧ Fr 299 a ∧ slot a 1 = .slice a1 len1 cap1 ∧ slot a 16 = .slice (some ⟨O, 0, none⟩) len1 len1 ∧ slot a 63 = .slice a1 len1 cap1 ∧ slot a 64 = .int .i64 len1 ∧ slot a 65 = .int .i64 (k : Nat) ∧ Keep [0, 2, 3, 4, 5, 13] v a ∧ (∃ f, w'.rowIs O 37 (len1 * 2) f) ∧ Below O w1 w')
    len1 ?_ ?_
  · refine ⟨0, rfl, ⟨rfl, rfl⟩, rfl, rfl, rfl, rfl, rfl, ?_, hrow, Below.refl _ _⟩
    intro i hi
    have := hKK.out i hi
    simp only [List.mem_cons, List.not_mem_nil, or_false] at hi
    rcases hi with rfl | rfl | rfl | rfl | rfl | rfl <;> exact this

  · clear hKK hrow u
    rintro n a wr ⟨k, hk, hF, h1, h16, h63, h64, h65, hK, ⟨f, hrow⟩, hbr⟩ R hR hexit
    obtain ⟨u, rfl, hu⟩ := to_lit hF
    have e1 := (hu 1 (by omega)).symm.trans h1
    have e16 := (hu 16 (by omega)).symm.trans h16
    have e63 := (hu 63 (by omega)).symm.trans h63
    have e64 := (hu 64 (by omega)).symm.trans h64
    have e65 := (hu 65 (by omega)).symm.trans h65
    clear hu hF h1 h16 h63 h64 h65
    have hKK := hide hK
    clear hK
    rw [e1, e16, e63, e64, e65]
    clear e1 e16 e63 e64 e65

    have hk' := hide hk
    have hkle : k ≤ len1 := by omega
    clear hk
    by_cases hlt : k < len1
    · obtain ⟨b, off, rfl, hcell, hbs⟩ := harg k hlt
      have hc := ((hbr.mono hO).cell (p := ⟨b, off + k, none⟩) (by exact hbs)).trans ((hb.cell (p := ⟨b, off + k, none⟩) (by exact hbs)).trans hcell)
      have hx := hwf k
      clear harg hcell hwf
      generalize z1.getD k 0 = x at hc hx
      obtain ⟨hx0, hx255⟩ := hx
      obtain ⟨m, hm⟩ : ∃ m : Nat, x % 4 + 1 = (m : Int) := ⟨(x % 4 + 1).toNat, by omega⟩
      have hm4 : 1 ≤ m ∧ m ≤ 4 := by omega
      have mk30 := make_k (P := Yba.prog) 30 26 _ 1 4 Yba.underlying30 info26 .i64 .i64 m (by omega) (by omega)
      have mk31 := make_k (P := Yba.prog) 31 32 _ 1 8 Yba.underlying31 info32 .i64 .i64 m (by omega) (by omega)
      go_wp2
      clear mk30 mk31 hm hc hx0 hx255
      have hlt' := hide hlt
      have hOr : O < wr.heap.size := hrow.lt
      refine loop_rule (fun n a w' => ∃ j, n + j = m ∧ Fr 299 a ∧ slot a 1 = .slice (some ⟨b, off, none⟩) len1 cap1 ∧ slot a 16 = .slice (some ⟨O, 0, none⟩) len1 len1 ∧ slot a 17 = .int .i64 (k : Nat) ∧ slot a 19 = .int .i64 (m : Nat) ∧
          slot a 20 = .slice (some ⟨wr.heap.size, 0, none⟩) m m ∧ slot a 21 = .slice (some ⟨wr.heap.size + 1, 0, none⟩) m m ∧ slot a 22 = .int .i64 (j : Nat) ∧ slot a 63 = .slice (some ⟨b, off, none⟩) len1 cap1 ∧ slot a 64 = .int .i64 len1 ∧ slot a 65 = .int .i64 (k : Nat) ∧
          Keep [0, 2, 3, 4, 5, 13] v a ∧ (∃ g, w'.rowIs wr.heap.size 26 m g) ∧ (∃ g, w'.rowIs (wr.heap.size + 1) 32 m g) ∧ Below wr.heap.size wr w')
        m ?_ ?_
      · refine ⟨0, rfl, ⟨rfl, rfl⟩, rfl, rfl, rfl, rfl, rfl, rfl, rfl, rfl, rfl, rfl, ?_, ?_, ?_, ?_⟩
        · intro i hi
          have := hKK.out i hi
          simp only [List.mem_cons, List.not_mem_nil, or_false] at hi
          rcases hi with rfl | rfl | rfl | rfl | rfl | rfl <;> exact this
        · exact ⟨fun j => #[Value.int .u32 0][j % 1]!, by simpa using (rowIs_make _ #[Value.int .u32 0] m _ (fun j => #[Value.int .u32 0][j % 1]!) (fun j _ => by simp)).alloc _⟩
        · have := rowIs_make (wr.alloc (.cells (madeCells #[Value.int .u32 0] m) 26)) #[Value.pointer none] m 32 (fun j => #[Value.pointer none][j % 1]!) (fun j _ => by simp)
          exact ⟨_, by simpa using this⟩
        · exact ((Below.refl _ _).alloc (Nat.le_refl _) _).alloc (by simp) _
      · clear hKK u
        rintro n2 a w' ⟨j, hj, hF, h1, h16, h17, h19, h20, h21, h22, h63, h64, h65, hK, ⟨g1, hr1⟩, ⟨g2, hr2⟩, hbi⟩ R2 hR2 hexit2
        obtain ⟨u, rfl, hu⟩ := to_lit hF
        have e1 := (hu 1 (by omega)).symm.trans h1
        have e16 := (hu 16 (by omega)).symm.trans h16
        have e17 := (hu 17 (by omega)).symm.trans h17
        have e19 := (hu 19 (by omega)).symm.trans h19
        have e20 := (hu 20 (by omega)).symm.trans h20
        have e21 := (hu 21 (by omega)).symm.trans h21
        have e22 := (hu 22 (by omega)).symm.trans h22
        have e63 := (hu 63 (by omega)).symm.trans h63
        have e64 := (hu 64 (by omega)).symm.trans h64
        have e65 := (hu 65 (by omega)).symm.trans h65
        clear hu hF h1 h16 h17 h19 h20 h21 h22 h63 h64 h65
        have hKK := hide hK
        clear hK
        rw [e1, e16, e17, e19, e20, e21, e22, e63, e64, e65]
        clear e1 e16 e17 e19 e20 e21 e22 e63 e64 e65

        have hj' := hide hj
        have hjle : j ≤ m := by omega
        clear hj
        by_cases hjlt : j < m
        · obtain ⟨x1, hx1⟩ : ∃ x, w'.cell? ⟨wr.heap.size, j, none⟩ = some x := ⟨_, hr1.cell (by omega)⟩
          obtain ⟨x2, hx2⟩ : ∃ x, w'.cell? ⟨wr.heap.size + 1, j, none⟩ = some x := ⟨_, hr2.cell (by omega)⟩
          have hz1 := hr1.frozen
          have hz2 := hr2.frozen
          have hl1 : wr.heap.size < w'.heap.size := hr1.lt
          have hl2 : wr.heap.size + 1 < w'.heap.size := hr2.lt
          go_wp2
          refine hR2.out (n2 - 1) _ _ (by have := hj'.out; omega) ⟨j + 1, by have := hj'.out; omega, ⟨rfl, rfl⟩, rfl, rfl, rfl, rfl, rfl, rfl, congrArg (Value.int .i64) (by omega), rfl, rfl, rfl, ?_,
            ⟨_, ((hr1.set _ _).setOther (by show wr.heap.size ≠ wr.heap.size + 1; omega) _).alloc _⟩, ⟨_, ((hr2.setOther (by show wr.heap.size + 1 ≠ wr.heap.size; omega) _).set _ _).alloc _⟩, ((hbi.setCell (Nat.le_refl _) _).setCell (Nat.le_succ _) _).alloc (by rw [size_setCell, size_setCell]; omega) _⟩
          intro i hi
          have := hKK.out i hi
          simp only [List.mem_cons, List.not_mem_nil, or_false] at hi
          rcases hi with rfl | rfl | rfl | rfl | rfl | rfl <;> exact this

        · obtain rfl : j = m := by omega
          go_wp2
          refine hexit2.out _ _ _ (by simp) ?_
          have hrow' := hrow.of_block (hbi.block O hOr)
          have hlt := hlt'.out
          obtain ⟨x0, hx0⟩ : ∃ x, w'.cell? ⟨O, k * 2, none⟩ = some x := ⟨_, hrow'.cell (by omega)⟩
          obtain ⟨x1, hx1⟩ : ∃ x, w'.cell? ⟨O, k * 2 + 1, none⟩ = some x := ⟨_, hrow'.cell (by omega)⟩
          have hz0 := hrow'.frozen
          go_wp2
          refine hR.out (n - 1) _ _ (by have := hk'.out; omega) ⟨k + 1, by have := hk'.out; omega, ⟨rfl, rfl⟩, rfl, rfl, rfl, rfl, congrArg (Value.int .i64) (by omega), ?_, ⟨_, (hrow'.set _ _).set _ _⟩, ((hbr.trans (hbi.mono (by omega))).setCell (Nat.le_refl _) _).setCell (Nat.le_refl _) _⟩
          intro i hi
          have := hKK.out i hi
          simp only [List.mem_cons, List.not_mem_nil, or_false] at hi
          rcases hi with rfl | rfl | rfl | rfl | rfl | rfl <;> exact this

    · obtain rfl : k = len1 := by omega
      go_wp2
      refine hexit.out _ _ _ (by simp) (hnext.out _ _ ⟨rfl, rfl⟩ rfl rfl ?_ ⟨_, hrow⟩ hbr)
      intro i hi
      have := hKK.out i hi
      simp only [List.mem_cons, List.not_mem_nil, or_false] at hi
      rcases hi with rfl | rfl | rfl | rfl | rfl | rfl <;> exact this

end Go.Proofs.Ybulkdfzs.AR
