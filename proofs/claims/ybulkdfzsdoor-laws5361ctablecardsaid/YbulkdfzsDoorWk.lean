import Derived.Test.YbulkdfzsDoorModel
import Derived.Test.YbulkdfzsDoorName
namespace Go.Proofs.YbulkdfzsDoor.T
open Go.RowKit
set_option linter.unusedVariables false
set_option linter.unusedSimpArgs false
set_option maxRecDepth 100000

set_option maxHeartbeats 1000000 in
theorem name2_no (p : Int) (hp0 : 0 ≤ p) (hp : p ≤ 255) (H : Nat) (s : ByteArray) (a : Act) (w : World) (R : Ending → World → Prop) (hF : Fr 16 a) (h0 : slot a 0 = .int .u8 p) (h2 : slot a 2 = .bool false) (h7 : slot a 7 = .pointer (some ⟨H, 0, none⟩))
    (hc : w.cell? ⟨H, (p % 28).toNat, none⟩ = some (.string s)) (hR : Hid (R (.returned (.string s)) w)) :
    Code.wp Ybad.prog (seqRest 2 (bodyOf Ybad.f5)) (bodyPost Ybad.prog Ybad.f5 R) a w := by
  obtain ⟨u, rfl, hu⟩ := to_lit16 hF
  have e0 := (hu 0 (by omega)).symm.trans h0
  have e2 := (hu 2 (by omega)).symm.trans h2
  have e7 := (hu 7 (by omega)).symm.trans h7
  clear hu hF h0 h2 h7
  conv => arg 2; whnf
  rw [e0, e2, e7]
  clear e0 e2 e7
  go_wp2
  exact hR.out

set_option maxHeartbeats 1000000 in
theorem name2_raw (raw : ByteArray) (a : Act) (w : World) (R : Ending → World → Prop) (hF : Fr 16 a) (h1 : slot a 1 = .string raw) (h2 : slot a 2 = .bool true) (hR : Hid (R (.returned (.string raw)) w)) :
    Code.wp Ybad.prog (seqRest 2 (bodyOf Ybad.f5)) (bodyPost Ybad.prog Ybad.f5 R) a w := by
  obtain ⟨u, rfl, hu⟩ := to_lit16 hF
  have e1 := (hu 1 (by omega)).symm.trans h1
  have e2 := (hu 2 (by omega)).symm.trans h2
  clear hu hF h1 h2
  conv => arg 2; whnf
  rw [e1, e2]
  clear e1 e2
  go_wp2
  exact hR.out

theorem R05 : bodyOf Ybad.f5 = Code.seq (seqPart 0 (bodyOf Ybad.f5)) (Code.seq (seqPart 1 (bodyOf Ybad.f5)) (seqRest 2 (bodyOf Ybad.f5))) := by kernel_rfl

set_option maxHeartbeats 1000000 in
/-- The name that the law draws: some string. -/
theorem name_any (p : Int) (hp0 : 0 ≤ p) (hp : p ≤ 255) (raw : ByteArray) (hraw : raw.size ≤ maxLen) (useRaw : Bool) (w : World) :
    Calls Ybad.prog 5 #[.int .u8 p, .string raw, .bool useRaw] w fun e w' => ∃ s : ByteArray, s.size ≤ maxLen ∧ e = .returned (.string s) ∧ Below w.heap.size w w' := by
  refine calls_of_wp Ybad.func5 rfl ?_
  show Code.wp Ybad.prog (bodyOf Ybad.f5) _ _ _
  rw [R05]
  refine wp_seq (wp_mono (Q := Exit.then (fun a' w' => w' = w ∧ Fr 16 a' ∧ slot a' 0 = .int .u8 p ∧ slot a' 1 = .string raw ∧ slot a' 2 = .bool useRaw) (fun _ _ _ => False)) ?_ ?_)
  · conv => arg 2; whnf
    simp only [Ybad.ntmps5, List.size_toArray, List.length_cons, List.length_nil, Nat.reduceAdd, Nat.reduceSub, Array.replicate_succ, Array.replicate_zero, List.push_toArray, List.append_toArray, List.nil_append, List.cons_append]
    go_wp2
    exact ⟨trivial, ⟨rfl, rfl⟩, rfl, rfl, rfl⟩
  · intro e a1 w1 h
    cases e with
    | normal =>
      obtain ⟨rfl, hF, h0, h1, h2⟩ := h
      refine wp_seq (name1 p _ _ a1 w1 _ hF h0 h1 h2 (hide ?_))
      intro a2 hF2 k0 k1 k2 k7
      have hb : Below w1.heap.size w1 (w1.alloc (.cells nms 29)) := (Below.refl _ _).alloc (Nat.le_refl _) _
      cases useRaw with
      | true => exact name2_raw raw a2 _ _ hF2 k1 k2 (hide ⟨raw, hraw, rfl, hb⟩)
      | false =>
        obtain ⟨s, hs, e⟩ := nms_at (p % 28).toNat (by omega)
        refine name2_no p hp0 hp _ s a2 _ _ hF2 k0 k2 k7 ?_ (hide ⟨s, hs, rfl, hb⟩)
        have hh := heap_alloc_last w1 (.cells nms 29)
        simp only [World.cell?, hh]
        exact e
    | _ => exact h.elim

/-- What is known of the two listed variables, in a world: the table's cells, the map's cell, what the map answers. -/
structure Tabs (w : World) : Prop where
  cell : ∀ k, k < 16 → ∃ s : ByteArray, s.toList = nm k ∧ w.cell? ⟨1, k, none⟩ = some (.string s)
  look : ∃ bm, w.cell? ⟨0, 0, none⟩ = some (.map (some bm)) ∧ ∀ s : ByteArray, s.size ≤ maxLen → (Instr.lookup 30 (.map (some bm)) (.string s) true).run Ybad.prog w = .ok (.tuple #[.int .u32 (ali s.toList).1, .bool (ali s.toList).2]) w

theorem scalFrom_hit (l : List UInt8) (k f : Nat) (h : nm k = l) : scalFrom l k (f + 1) = ((k : Int), true) := by
  simp [scalFrom, h]
theorem scalFrom_miss (l : List UInt8) (k f : Nat) (h : nm k ≠ l) : scalFrom l k (f + 1) = scalFrom l (k + 1) f := by
  simp [scalFrom, h]

set_option maxHeartbeats 1000000 in
/-- Scalar. -/
theorem scalar_any (s : ByteArray) (w : World) (hT : ∀ k, k < 16 → ∃ s : ByteArray, s.toList = nm k ∧ w.cell? ⟨1, k, none⟩ = some (.string s)) :
    Calls Ybad.prog 9 #[.string s] w fun e w' => e = .returned (.tuple #[.int .u32 (scal s.toList).1, .bool (scal s.toList).2]) ∧ w' = w := by
  have hT' := hide hT
  clear hT
  go_enter Ybad.func9, Ybad.ntmps9
  go_wp2
  go_loop [4] (fun i => ∃ k : Nat, 1 ≤ k ∧ k ≤ 16 ∧ i = .int .u32 (k : Int) ∧ Hid (scal s.toList = scalFrom s.toList k (16 - k))) (fun i => (16 - intOf i).toNat)
  case atStart => exact ⟨1, by omega, by omega, rfl, rfl⟩
  case round =>
    obtain ⟨k, hk1, hk2, rfl, hS⟩ := hrel
    by_cases hlt : k < 16
    · obtain ⟨t, ht, hc⟩ := hT'.out k hlt
      by_cases hit : t.toList = s.toList
      · have hb : (t.toList == s.toList) = true := by simpa using hit
        have hfin := hide (show scal s.toList = ((k : Int), true) from hS.out.trans (by
          obtain ⟨f, hf⟩ : ∃ f, 16 - k = f + 1 := ⟨15 - k, by omega⟩
          rw [hf, scalFrom_hit _ _ _ (ht.symm.trans hit)]))
        clear hit ht
        go_wp2
        go_ret2
        rw [hfin.out]
        exact ⟨rfl, rfl⟩
      · have hb : (t.toList == s.toList) = false := by simpa using hit
        have hnew := hide (show scal s.toList = scalFrom s.toList (k + 1) (16 - (k + 1)) from hS.out.trans (by
          obtain ⟨f, hf⟩ : ∃ f, 16 - k = f + 1 := ⟨15 - k, by omega⟩
          rw [hf, scalFrom_miss _ _ _ (fun e => hit (ht.trans e))]
          congr 1
          omega))
        clear hit ht
        go_wp2
        go_round
        case rel => exact ⟨k + 1, by omega, by omega, by go_num, hnew⟩
        case measure => simp [intOf]; omega
    · obtain rfl : k = 16 := by omega
      go_wp2
      go_ret2
      rw [hS.out]
      exact ⟨rfl, rfl⟩

set_option maxHeartbeats 1000000 in
/-- scalarNamed. -/
theorem named_any (s : ByteArray) (hs : s.size ≤ maxLen) (w : World) (hT : Tabs w) :
    Calls Ybad.prog 6 #[.string s] w fun e w' => e = .returned (.tuple #[.int .u32 (sn s.toList).1, .bool (sn s.toList).2]) ∧ w' = w := by
  obtain ⟨bm, hm, hl⟩ := hT.look
  have hl' := hl s hs
  have hsc := hide (scalar_any s w hT.cell)
  clear hl hT
  by_cases ha : (ali s.toList).2 = true
  · have hfin := hide (show sn s.toList = ((ali s.toList).1, true) from by unfold sn; rw [if_pos ha])
    rw [ha] at hl'
    clear ha
    generalize (ali s.toList).1 = x at hl' hfin
    go_enter Ybad.func6, Ybad.ntmps6
    go_wp2
    go_ret2
    rw [hfin.out]
    exact ⟨rfl, rfl⟩
  · have hfin := hide (show sn s.toList = scal s.toList from by unfold sn; rw [if_neg ha])
    have ha' : (ali s.toList).2 = false := by simpa using ha
    rw [ha'] at hl'
    clear ha ha'
    generalize (ali s.toList).1 = x at hl'
    go_enter Ybad.func6, Ybad.ntmps6
    go_wp2_with (go_at_call 9; refine hsc.out.mono ?_; rintro e w' ⟨rfl, rfl⟩)
    go_ret2
    rw [hfin.out]
    exact ⟨rfl, rfl⟩

set_option maxHeartbeats 1000000 in
/-- reserved. -/
theorem reserved_any (s : ByteArray) (hs : s.size ≤ maxLen) (w : World) (hT : Tabs w) :
    Calls Ybad.prog 8 #[.string s] w fun e w' => e = .returned (.bool ((sn s.toList).2 || (s.toList == [109, 97, 112]) || (s.toList == [102, 117, 110]))) ∧ w' = w := by
  have hn := hide (named_any s hs w hT)
  clear hT
  generalize sn s.toList = r at hn
  obtain ⟨x, b⟩ := r
  cases b with
  | true =>
    go_enter Ybad.func8, Ybad.ntmps8
    go_wp2_with (go_at_call 6; refine hn.out.mono ?_; rintro e w' ⟨rfl, rfl⟩)
    go_ret
    exact ⟨rfl, rfl⟩
  | false =>
    cases h1 : (s.toList == [109, 97, 112]) with
    | true =>
      go_enter Ybad.func8, Ybad.ntmps8
      go_wp2_with (go_at_call 6; refine hn.out.mono ?_; rintro e w' ⟨rfl, rfl⟩)
      go_ret
      exact ⟨rfl, rfl⟩
    | false =>
      go_enter Ybad.func8, Ybad.ntmps8
      go_wp2_with (go_at_call 6; refine hn.out.mono ?_; rintro e w' ⟨rfl, rfl⟩)
      go_ret
      exact ⟨rfl, rfl⟩
end Go.Proofs.YbulkdfzsDoor.T
