import Derived.Test.YbulkdghuMake
import Derived.Test.YbulkdghuPlain
namespace Go.Proofs.Ybulkdghu.T
open Go.RowKit
set_option linter.unusedVariables false
set_option linter.unusedSimpArgs false
set_option maxRecDepth 100000

/-- A block of three cells. -/
structure Tri (w : World) (b : Nat) (c0 c1 c2 : Value) : Prop where
  a0 : w.cell? ⟨b, 0, none⟩ = some c0
  a1 : w.cell? ⟨b, 1, none⟩ = some c1
  a2 : w.cell? ⟨b, 2, none⟩ = some c2
  lt : b < w.heap.size
theorem Tri.later {w w' : World} {b : Nat} {c0 c1 c2 : Value} (h : Tri w b c0 c1 c2) (hb : Below w.heap.size w w') : Tri w' b c0 c1 c2 := by
  have e1 : ∀ i, w'.cell? ⟨b, i, none⟩ = w.cell? ⟨b, i, none⟩ := fun i => hb.cell (p := ⟨b, i, none⟩) h.lt
  exact ⟨(e1 0).trans h.a0, (e1 1).trans h.a1, (e1 2).trans h.a2, by have := hb.size; have := h.lt; omega⟩
theorem tri_new (w : World) (c0 c1 c2 : Value) (t : TypeId) : Tri (w.alloc (.cells #[c0, c1, c2] t)) w.heap.size c0 c1 c2 := by
  have h1 : (w.alloc (.cells #[c0, c1, c2] t)).heap[w.heap.size]? = some (.cells #[c0, c1, c2] t) := Go.Deep.blk_alloc_new _ _
  refine ⟨?_, ?_, ?_, ?_⟩
  · simp only [World.cell?, h1]; rfl
  · simp only [World.cell?, h1]; rfl
  · simp only [World.cell?, h1]; rfl
  · show w.heap.size < (w.heap.push _).size
    simp
theorem tri_alloc {w : World} {b : Nat} {c0 c1 c2 : Value} (h : Tri w b c0 c1 c2) (o : Obj) : Tri (w.alloc o) b c0 c1 c2 := h.later ((Below.refl _ _).alloc (Nat.le_refl _) o)

theorem alphaT : ∀ x ∈ tT.data.toList, x ≠ 58 := by decide
theorem alphaI : ∀ x ∈ tI.data.toList, 35 < x := by decide
theorem bytes_mem (tab : ByteArray) (h : 0 < tab.size) (z : List Int) (n : Nat) : ∀ x ∈ bytes tab z n, x ∈ tab.data.toList := by
  intro x hx
  obtain ⟨i, _, rfl⟩ := List.mem_map.1 hx
  have hl : (z.getD i 0).toNat % tab.size < tab.data.toList.length := by rw [Array.length_toList]; exact Nat.mod_lt _ h
  rw [List.getD_eq_getElem?_getD, List.getElem?_eq_getElem hl]
  exact List.getElem_mem hl

set_option maxHeartbeats 1000000 in
theorem law_small (s0 s1 s2 r0 r1 r2 : Sl) (w : World) (k0 : s0.Ok w) (k1 : s1.Ok w) (k2 : s2.Ok w) (m0 : r0.Ok w) (m1 : r1.Ok w) (m2 : r2.Ok w) :
    Calls Yba.prog 3 #[.agg #[.slice s0.a s0.len s0.cap, .slice s1.a s1.len s1.cap, .slice s2.a s2.len s2.cap], .agg #[.slice r0.a r0.len r0.cap, .slice r1.a r1.len r1.cap, .slice r2.a r2.len r2.cap]] w
      fun e w' => e = .returned (.bool true) ∧ Below w.heap.size w w' := by
  have b0 : ¬ (300 : Int) < (s0.len : Int) := by have := k0.le; omega
  have b1 : ¬ (300 : Int) < (s1.len : Int) := by have := k1.le; omega
  have b2 : ¬ (300 : Int) < (s2.len : Int) := by have := k2.le; omega
  have b3 : ¬ (300 : Int) < (r0.len : Int) := by have := m0.le; omega
  have b4 : ¬ (300 : Int) < (r1.len : Int) := by have := m1.le; omega
  have b5 : ¬ (300 : Int) < (r2.len : Int) := by have := m2.le; omega
  have hb0 := hide (belowTwo w (.cells #[.slice s0.a s0.len s0.cap, .slice s1.a s1.len s1.cap, .slice s2.a s2.len s2.cap] 24) (.cells #[.slice r0.a r0.len r0.cap, .slice r1.a r1.len r1.cap, .slice r2.a r2.len r2.cap] 24))
  have K := hide (And.intro (k0.later hb0.out) (And.intro (k1.later hb0.out) (k2.later hb0.out)))
  have M := hide (And.intro (m0.later hb0.out) (And.intro (m1.later hb0.out) (m2.later hb0.out)))
  clear k0 k1 k2 m0 m1 m2
  go_enter Yba.func3, Yba.ntmps3
  go_wp2_with fail
  have X0 := hide (show Tri ((w.alloc (.cells #[.slice s0.a s0.len s0.cap, .slice s1.a s1.len s1.cap, .slice s2.a s2.len s2.cap] 24)).alloc (.cells #[.slice r0.a r0.len r0.cap, .slice r1.a r1.len r1.cap, .slice r2.a r2.len r2.cap] 24)) (w.heap.size + 1) (.slice r0.a r0.len r0.cap) (.slice r1.a r1.len r1.cap) (.slice r2.a r2.len r2.cap) from by
    have h := tri_new (w.alloc (.cells #[.slice s0.a s0.len s0.cap, .slice s1.a s1.len s1.cap, .slice s2.a s2.len s2.cap] 24)) (.slice r0.a r0.len r0.cap) (.slice r1.a r1.len r1.cap) (.slice r2.a r2.len r2.cap) 24
    rwa [show (w.alloc (.cells #[.slice s0.a s0.len s0.cap, .slice s1.a s1.len s1.cap, .slice s2.a s2.len s2.cap] 24)).heap.size = w.heap.size + 1 from by show (w.heap.push _).size = _; simp] at h)
  generalize ((w.alloc (.cells #[.slice s0.a s0.len s0.cap, .slice s1.a s1.len s1.cap, .slice s2.a s2.len s2.cap] 24)).alloc (.cells #[.slice r0.a r0.len r0.cap, .slice r1.a r1.len r1.cap, .slice r2.a r2.len r2.cap] 24)) = w2 at hb0 K M X0 ⊢
  clear b0 b1 b2 b3 b4 b5
  refine (make_any s0 s1 s2 w2 K.out.1 K.out.2.1 K.out.2.2).mono ?_
  rintro e w3 ⟨t, i, r, x, ht, rfl, hb3⟩
  have T1 := hide ht
  have X3 := X0.out.later hb3
  have x0 := X3.a0
  have x1 := X3.a1
  have x2 := X3.a2
  have X3' := hide X3.lt
  have hle := hide (show w.heap.size ≤ w2.heap.size from hb0.out.size)
  have hb3' := hide (hb0.out.trans (hb3.mono hle.out))
  have M3 := hide (And.intro (M.out.1.later hb3) (And.intro (M.out.2.1.later hb3) (M.out.2.2.later hb3)))
  have hle3 := hide (Nat.le_trans hle.out hb3.size)
  clear ht hb3 X3 X0 M K hb0 hle
  have hlt3 := X3'.out
  go_wp2_with fail
  have hb4 := hide ((Below.refl w3.heap.size w3).alloc (Nat.le_refl _) (.cells #[.string t, .string i, .string r] 28))
  have Y4 := hide (tri_new w3 (.string t) (.string i) (.string r) 28)
  have M4 := hide (And.intro (M3.out.1.later hb4.out) (And.intro (M3.out.2.1.later hb4.out) (M3.out.2.2.later hb4.out)))
  have hB4 := hide (hb3'.out.trans (hb4.out.mono hle3.out))
  have hle4 := hide (Nat.le_trans hle3.out hb4.out.size)
  clear hb4 M3 hb3' x0 x1 x2 X3' hlt3 hle3
  generalize (w3.alloc (.cells #[.string t, .string i, .string r] 28)) = w4 at Y4 M4 hB4 hle4 ⊢
  generalize w3.heap.size = B3 at Y4 ⊢
  refine (make_any r0 r1 r2 w4 M4.out.1 M4.out.2.1 M4.out.2.2).mono ?_
  rintro e w5 ⟨t', i', r', x', ht', rfl, hb5⟩
  have T2 := hide ht'
  have Y5 := Y4.out.later hb5
  have y0 := Y5.a0
  have y1 := Y5.a1
  have y2 := Y5.a2
  have yl := Y5.lt
  have hB5 := hide (hB4.out.trans (hb5.mono hle4.out))
  have hle5 := hide (Nat.le_trans hle4.out hb5.size)
  clear hb5 Y5 Y4 M4 hB4 ht' hle4
  go_wp2_with fail
  have ts : t.size ≤ 1000 := by have := T1.out.2.2.2.1; omega
  have ts' : t'.size ≤ 1000 := by have := T2.out.2.2.2.1; omega
  refine (subjects_any t i r t' i' r' _ ts ts').mono ?_
  rintro e w6 ⟨rfl, hb6⟩
  have hB6 := hide ((hB5.out.trans (((Below.refl w5.heap.size w5).alloc (Nat.le_refl _) _).mono hle5.out)).trans (hb6.mono (by have := hle5.out; show w.heap.size ≤ (w5.heap.push _).size; simp; omega)))
  clear hb6 y0 y1 y2 yl hB5 hle5 ts ts'
  have hlaw : cs t.data.toList i.data.toList r.data.toList t'.data.toList i'.data.toList r'.data.toList = Lib.compareBytes x.data.toList x'.data.toList := by
    obtain ⟨e1, e2, e3, _, e4⟩ := T1.out
    obtain ⟨f1, f2, f3, _, f4⟩ := T2.out
    rw [e4, f4]
    exact text_law _ _ _ _ _ _ (by rw [e1]; exact fun z hz => alphaT z (bytes_mem tT (by decide) _ _ z hz)) (by rw [f1]; exact fun z hz => alphaT z (bytes_mem tT (by decide) _ _ z hz))
      (by rw [e2]; exact fun z hz => alphaI z (bytes_mem tI (by decide) _ _ z hz)) (by rw [f2]; exact fun z hz => alphaI z (bytes_mem tI (by decide) _ _ z hz))
  rw [hlaw]
  have hcmp := hide (compare_any x x' w6)
  clear hlaw T1 T2
  generalize Lib.compareBytes x.data.toList x'.data.toList = c at hcmp ⊢
  go_wp2_with (go_at_call 7; refine hcmp.out.mono ?_; rintro e w' ⟨rfl, rfl⟩)
  go_ret
  exact ⟨rfl, hB6.out⟩
end Go.Proofs.Ybulkdghu.T
