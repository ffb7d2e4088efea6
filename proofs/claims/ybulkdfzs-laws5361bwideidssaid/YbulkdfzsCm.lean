/-
  zzs5361bcheck: it returns true. Own text.
-/
import Derived.Test.YbulkdfzsCl
namespace Go.Proofs.Ybulkdfzs.S
open Go.RowKit Go.Proofs.Ybulkdfzs.AR Go.Proofs.Ybulkdfzs.Pl
set_option linter.unusedVariables false
set_option linter.unusedSimpArgs false
set_option maxRecDepth 100000

theorem body7 : bodyOf Yba.f7 = Code.seq (seqPart 0 (bodyOf Yba.f7)) (Code.seq (seqPart 1 (bodyOf Yba.f7)) (Code.seq (seqPart 2 (bodyOf Yba.f7)) (Code.seq (seqPart 3 (bodyOf Yba.f7)) (Code.seq (seqPart 4 (bodyOf Yba.f7)) (Code.seq (seqPart 5 (bodyOf Yba.f7)) (Code.seq (seqPart 6 (bodyOf Yba.f7)) (Code.seq (seqPart 7 (bodyOf Yba.f7)) (Code.seq (seqPart 8 (bodyOf Yba.f7)) (Code.seq (seqPart 9 (bodyOf Yba.f7)) (Code.seq (seqPart 10 (bodyOf Yba.f7)) (Code.seq (seqPart 11 (bodyOf Yba.f7)) (Code.seq (seqPart 12 (bodyOf Yba.f7)) (Code.seq (seqPart 13 (bodyOf Yba.f7)) (Code.seq (seqPart 14 (bodyOf Yba.f7)) (Code.seq (seqPart 15 (bodyOf Yba.f7)) Code.ret))))))))))))))) := by kernel_rfl

/-- zzs5361bcheck. -/
theorem check (b n : Nat) (d : Nat → Nat) (a1 : Option Addr) (l1 c1 : Nat) (z1 : List Int) (w : World) (hr : w.rowIs b 26 n (row d)) (hn : n ≤ 1024) (hl1 : l1 ≤ 1024) (hd : ∀ t, t < n → 0 < d t ∧ d t < 2147483648) (harg : Arg .u32 w a1 l1 z1) :
    Calls Yba.prog 7 #[.slice (some ⟨b, 0, none⟩) n n, .slice a1 l1 c1] w fun e w' => e = .returned (.bool true) ∧ Below w.heap.size w w' := by
  refine calls_of_wp Yba.func7 rfl ?_
  show Code.wp Yba.prog (bodyOf Yba.f7) _ _ _
  have hF0 : Fr 101 { tmps := #[.slice (some ⟨b, 0, none⟩) n n, .slice a1 l1 c1] ++ Array.replicate (Yba.f7.ntmps - (#[.slice (some ⟨b, 0, none⟩) n n, .slice a1 l1 c1] : Array Value).size) undef, defers := [] } := ⟨by kernel_rfl, rfl⟩
  generalize hA : ({ tmps := #[.slice (some ⟨b, 0, none⟩) n n, .slice a1 l1 c1] ++ Array.replicate (Yba.f7.ntmps - (#[.slice (some ⟨b, 0, none⟩) n n, .slice a1 l1 c1] : Array Value).size) undef, defers := [] } : Act) = A at hF0 ⊢
  have t0 : slot A 0 = .slice (some ⟨b, 0, none⟩) n n := by rw [← hA]; kernel_rfl
  have t1 : slot A 1 = .slice a1 l1 c1 := by rw [← hA]; kernel_rfl
  clear hA
  rw [body7]
  refine ck1 b n d _ w A hF0 t0 t1 hr hn hd _ _ (hide ?_)
  intro A1 g m cap f w1 hF1 u1 u5 hm hcap hg1 hI1 hb1
  refine ck2 _ _ w1 A1 hF1 u1 u5 _ _ (hide ?_)
  intro A2 o hF2 u1 u5 u6 u7 hNS2
  have hs2 : (w1.alloc o).heap.size = w1.heap.size + 1 := by show (w1.heap.push o).size = _; simp
  have hb2 : Below w1.heap.size w1 (w1.alloc o) := (Below.refl _ _).alloc (Nat.le_refl _) o
  have hI2 := hI1.later hb2 hg1
  have hsz1 := hb1.size
  refine wp_seq (ck3 w1.heap.size g m cap f _ (w1.alloc o) A2 hF2 u1 u5 u6 u7 hm hcap hg1 hI2 hNS2 _ (hide ?_))
  intro A3 s N w3 hF3 u1 u5 u6 u7 hNS3 hN3 hs0 hE hb3
  have hI3 := hI2.later hb3 hg1
  have hsz3 := hb3.size
  refine ck4 w1.heap.size N _ _ a1 l1 c1 hl1 w3 A3 hF3 u1 u5 u6 u7 hNS3 hN3 _ _ (hide ?_)
  intro A4 hF4 u1 u5 u6 u7 u8 u9
  have hrow4 : (w3.alloc (.cells (madeCells #[.int .u32 0] l1) 26)).rowIs w3.heap.size 26 l1 (dF z1 0) := rowIs_make w3 _ _ _ _ fun j _ => by simp [dF, Nat.mod_one]
  have hb4 : Below w3.heap.size w3 (w3.alloc (.cells (madeCells #[.int .u32 0] l1) 26)) := (Below.refl _ _).alloc (Nat.le_refl _) _
  generalize w3.alloc (.cells (madeCells #[.int .u32 0] l1) 26) = w4 at hrow4 hb4 ⊢
  have h03 : Below w.heap.size w w3 := (hb1.trans (hb2.mono hsz1)).trans (hb3.mono hsz1)
  have h04 : Below w.heap.size w w4 := h03.trans (hb4.mono (by omega))
  -- dst is read through the arguments' own cells
  have harg3 : Arg .u32 w3 a1 l1 z1 := fun i hi => by
    obtain ⟨ab, off, e, hc, hlt⟩ := harg i hi
    exact ⟨ab, off, e, (h03.cell (p := ⟨ab, off + i, none⟩) hlt).trans hc, by omega⟩
  refine wp_seq (ck6 w3.heap.size a1 l1 c1 z1 hl1 _ _ _ _ w3 w4 (Nat.le_refl _) harg3 A4 hF4 u1 u5 u6 u7 u8 u9 hrow4 hb4 _ (hide ?_))
  intro A5 w5 hF5 u1 u5 u6 u7 u8 u9 hrow5 hb5
  have hb35 : Below w3.heap.size w3 w5 := hb4.trans hb5
  have hown5 : w5.ownsRow w3.heap.size 26 1 (.slice (some ⟨w3.heap.size, 0, none⟩) l1 l1) l1 ((List.range l1).map (dF z1 l1)) := by
    obtain ⟨cc, e1, e2, e3⟩ := hrow5
    refine ⟨by simp, Or.inr ⟨w3.heap.size, l1, cc, rfl, Nat.le_refl _, e1, Nat.le_refl _, by unfold maxLen; omega, by omega, ?_⟩⟩
    apply List.ext_getElem?
    intro i
    by_cases hi : i < l1
    · have h := e3 i hi
      rw [Nat.mul_one, List.getElem?_take_of_lt hi]
      simp [hi]
      simpa using h
    · rw [Nat.mul_one, List.getElem?_eq_none (by simp; omega), List.getElem?_eq_none (by simp; omega)]
  have hnod5 : Nodes w3.heap.size w1.heap.size w5 N := hNS3.nodes.later hb35
  -- appendMembers
  have hcall : Calls Yba.prog 12 #[.pointer (some ⟨w1.heap.size, 0, none⟩), .slice (some ⟨w3.heap.size, 0, none⟩) l1 l1, .int .u32 (s : Int)] w5 fun e w' => ∃ v', e = .returned v' ∧ (w'.ownsRow w3.heap.size 26 1 v' (l1 + m) ((List.range l1).map (dF z1 l1) ++ (seg f 0 m).map fun x => .int .u32 ((x : Nat) : Int)) ∧ Below w3.heap.size w5 w' ∧ v' ≠ .slice none 0 0) := by
    by_cases hm0 : 0 < m
    · refine (members w1.heap.size w3.heap.size N w5 _ l1 _ s (seg f 0 m) hnod5 hown5 hb35.size hl1 (by simpa [seg] using hm) (hE hm0)).mono ?_
      rintro e w' ⟨v', rfl, h1, h2⟩
      have hl : (seg f 0 m).length = m := by simp [seg]
      rw [hl] at h1
      refine ⟨v', rfl, h1, h2, ?_⟩
      rcases h1.2 with ⟨_, h⟩ | ⟨g', c', cur', e', _⟩
      · omega
      · rw [e']; intro h; cases h
    · have hmz : m = 0 := by omega
      have hsz : s = 0 := hs0 hmz
      subst hsz
      refine (show Calls Yba.prog 12 #[.pointer (some ⟨w1.heap.size, 0, none⟩), .slice (some ⟨w3.heap.size, 0, none⟩) l1 l1, .int .u32 0] w5 _ from members0 w1.heap.size (.slice (some ⟨w3.heap.size, 0, none⟩) l1 l1) w5).mono ?_
      rintro e w' ⟨rfl, rfl⟩
      subst hmz
      exact ⟨_, rfl, by simpa [seg] using hown5, Below.refl _ _, by intro h; cases h⟩
  refine wp_seq (ck7 w1.heap.size _ _ _ _ _ w5 A5 hF5 u1 u5 u6 u7 u8 u9 _ _ (hide hcall) (hide ?_))
  rintro A6 v6 w6 hF6 u1 u5 u6 u8 u11 ⟨hown6, hb6, hne6⟩
  obtain ⟨G, gc, hv6⟩ : ∃ G gc, v6 = .slice (some ⟨G, 0, none⟩) (l1 + m) gc := by
    rcases hown6.2 with ⟨e, _⟩ | ⟨g', c', cur', e', _⟩
    · exact absurd e hne6
    · exact ⟨g', c', e'⟩
  subst hv6
  have hb36 : Below w3.heap.size w3 w6 := hb35.trans hb6
  have h06 : Below w.heap.size w w6 := h03.trans (hb36.mono (by omega))
  obtain ⟨ao, gc3, hcU3⟩ := hNS3.slice
  have hcU6 : w6.cell? ⟨w1.heap.size, 11, none⟩ = some (.slice ao N.length gc3) := (hb36.cell (p := ⟨w1.heap.size, 11, none⟩) (by show w1.heap.size < w3.heap.size; omega)).trans hcU3
  refine ck8 w1.heap.size N.length m l1 ao a1 _ _ gc3 c1 cap gc w6 A6 hF6 u1 u5 u6 u8 u11 hl1 hm hN3 hcU6 _ _ (hide ?_)
  intro A7 hF7 u1 u5 u11
  have hcells := fun j x h => by
    have := hown6.cells (g := G) rfl j x h
    rwa [add_zero_addr] at this
  have hfront : ∀ i, i < l1 → w6.cell? ⟨G, i, none⟩ = some (.int .u32 (z1.getD i 0)) := fun i hi => hcells i _ (by
    rw [List.getElem?_append_left (by simpa using hi)]
    simp [hi, dF])
  have hback : ∀ i, i < m → w6.cell? ⟨G, l1 + i, none⟩ = some (.int .u32 ((f i : Nat) : Int)) := fun i hi => hcells (l1 + i) _ (by
    rw [List.getElem?_append_right (by simp)]
    simp [seg, hi])
  refine wp_seq (ck9 G a1 l1 c1 (l1 + m) gc z1 hl1 (by omega) _ w6 (fun i hi => by
    obtain ⟨ab, off, e, hc, hlt⟩ := harg i hi
    exact ⟨ab, off, e, (h06.cell (p := ⟨ab, off + i, none⟩) hlt).trans hc⟩) hfront A7 hF7 u1 u5 u11 _ (hide ?_))
  intro A8 q8 hF8 u1 u5 u11
  refine wp_seq (ck10 G g a1 l1 c1 m cap gc f hl1 hm (w6.drewN q8) (fun i hi => (hb36.cell (p := ⟨g, i, none⟩) (by show g < w3.heap.size; omega)).trans (hI3.1 i hi)) hback A8 hF8 u1 u5 u11 _ (hide ?_))
  intro A9 q9 hF9
  refine wp_seq (ck11 _ A9 hF9 _ (hide ?_))
  intro A10 hF10 u4
  refine wp_ret ?_
  refine bodyPost_ret (results_tmp (t := 4) (by kernel_rfl) _ _ _) hF10.2 ⟨?_, Below_drewN (Below_drewN h06 _) _⟩
  show Ending.returned (slot A10 4) = _
  rw [u4]
end Go.Proofs.Ybulkdfzs.S
