/-
  THE PROOF OF 'Rows.LawS5376CTextSaid': the two struct arguments opened into their three slices each; the walks of YbulkdghuLaw and YbulkdghuBig.
-/
import Derived.Test.YbulkdghuRows
import Derived.Test.YbulkdghuBig
import Derived.ProofKit
import Derived.OpenShut
import Derived.ChangeOld
import Derived.Lib.SmallJoins
namespace Go.Proofs.Ybulkdghu.text
open Go.ChangeShapes Go.WideShapes Go.ChangeAt Go.RowKit Go.Joins
set_option linter.unusedVariables false
set_option linter.unusedSimpArgs false

theorem own : ownKnob Yba.prog.godebug = none := by kernel_rfl
theorem laidOut : laidOutB Yba.prog = true := by kernel_rfl
theorem cells24 : Yba.prog.cellsOf 24 = 3 := by kernel_rfl

/-- A slice of bytes in a field, as the walks want it. -/
theorem sl_of {H : Type} {enc : TypeId × Value → H} {W : World} {n : Nat} {v : Value} {y : DataW H × List MemPlace} {hd : Bool} (h : DataW.trod enc Yba.prog W 0 (fun _ => true) hd n 22 [v] = some y) :
    ∃ s : T.Sl, v = .slice s.a s.len s.cap ∧ T.Arg .u8 W s.a s.len s.z ∧ ∀ i, 0 ≤ s.z.getD i 0 ∧ s.z.getD i 0 ≤ 255 := by
  rcases open_ints Yba.underlying22 Yba.underlying5 (by kernel_rfl) h with ⟨hcs, _⟩ | ⟨x, l, c, zs, hcs, _, hl, hm, hz, _, hcell, hwz⟩
  · simp at hcs
    subst hcs
    exact ⟨⟨none, 0, 0, []⟩, rfl, fun i hi => absurd hi (Nat.not_lt_zero i), fun i => by simp⟩
  · simp at hcs
    subst hcs
    refine ⟨⟨some x, l, c, zs⟩, rfl, fun i hi => ?_, fun i => ?_⟩
    · have hi' : i < l := hi
      have hz' : zs.length = c := by simpa using hz
      obtain ⟨b, off, rfl, hcl⟩ := ints_at hcell (by omega)
      have h1 := hcl i (by omega)
      refine ⟨b, off, rfl, h1, ?_⟩
      rcases Nat.lt_or_ge b W.heap.size with hlt | hge
      · exact hlt
      · simp [World.cell?, Array.getElem?_eq_none hge] at h1
    · have := range_u8 hwz i
      simpa using this

theorem walk (s0 s1 s2 r0 r1 r2 : T.Sl) (w : World) (k0 : T.Arg .u8 w s0.a s0.len s0.z ∧ ∀ i, 0 ≤ s0.z.getD i 0 ∧ s0.z.getD i 0 ≤ 255) (k1 : T.Arg .u8 w s1.a s1.len s1.z ∧ ∀ i, 0 ≤ s1.z.getD i 0 ∧ s1.z.getD i 0 ≤ 255) (k2 : T.Arg .u8 w s2.a s2.len s2.z ∧ ∀ i, 0 ≤ s2.z.getD i 0 ∧ s2.z.getD i 0 ≤ 255)
    (m0 : T.Arg .u8 w r0.a r0.len r0.z ∧ ∀ i, 0 ≤ r0.z.getD i 0 ∧ r0.z.getD i 0 ≤ 255) (m1 : T.Arg .u8 w r1.a r1.len r1.z ∧ ∀ i, 0 ≤ r1.z.getD i 0 ∧ r1.z.getD i 0 ≤ 255) (m2 : T.Arg .u8 w r2.a r2.len r2.z ∧ ∀ i, 0 ≤ r2.z.getD i 0 ∧ r2.z.getD i 0 ≤ 255) :
    Calls Yba.prog 3 #[.agg #[.slice s0.a s0.len s0.cap, .slice s1.a s1.len s1.cap, .slice s2.a s2.len s2.cap], .agg #[.slice r0.a r0.len r0.cap, .slice r1.a r1.len r1.cap, .slice r2.a r2.len r2.cap]] w
      fun e w' => e = .returned (.bool true) ∧ Below w.heap.size w w' := by
  by_cases h : s0.len ≤ 300 ∧ s1.len ≤ 300 ∧ s2.len ≤ 300 ∧ r0.len ≤ 300 ∧ r1.len ≤ 300 ∧ r2.len ≤ 300
  · obtain ⟨h0, h1, h2, h3, h4, h5⟩ := h
    exact T.law_small s0 s1 s2 r0 r1 r2 w ⟨k0.1, k0.2, h0⟩ ⟨k1.1, k1.2, h1⟩ ⟨k2.1, k2.2, h2⟩ ⟨m0.1, m0.2, h3⟩ ⟨m1.1, m1.2, h4⟩ ⟨m2.1, m2.2, h5⟩
  · exact T.law_big s0 s1 s2 r0 r1 r2 w h

set_option maxRecDepth 100000 in
theorem lifted (os : Os) (started : os.Started) (H : Type) (enc : TypeId × Value → H) :
    ReturnsInHanded {} Yba.checked os 3 .any (Rows.lawS5376CTextSpec.pre6 enc Yba.prog Yba.f3 Rows.lawS5376CTextRow.domain false) (Rows.lawS5376CTextSpec.post enc Yba.prog Yba.f3 false true false false) := by
  refine returnsInHanded_of_change (C := Yba.checked) own started (by kernel_rfl) Yba.func3
    (ChangeSpec.witness6 (enc := enc) (C := Yba.checked) false ⟨#[], #[.agg #[.slice none 0 0, .slice none 0 0, .slice none 0 0], .agg #[.slice none 0 0, .slice none 0 0, .slice none 0 0]], []⟩ 8 (by kernel_rfl) (by kernel_rfl) (by kernel_rfl) (by kernel_rfl)) ?_
  intro W base args ds gs before hval0 hW hcnd _
  have hval : ∀ (j : Nat) t v, Yba.f3.params[j]? = some t → args[j]? = some v → Value.okWide Yba.prog W .any base t v := hval0
  have hW' := hW
  obtain ⟨p, q, hA0, hV, rfl, hfz, hnd⟩ := hW
  have hA : DataW.TrodAll enc Yba.prog W 0 (fun _ => true) true Yba.f3.params.toList args.toList ds p := hA0
  rw [Yba.params3] at hA hval
  obtain ⟨v0, vs0, d0, ds0, p0, q0, hargs, rfl, rfl, h0, r0⟩ := trodAll_cons hA
  obtain ⟨v1, vs1, d1, ds1, p1, q1, rfl, rfl, rfl, h1, r1⟩ := trodAll_cons r0
  obtain ⟨rfl, rfl, rfl⟩ := trodAll_nil r1
  obtain rfl : args = #[v0, v1] := by cases args; simp_all
  obtain ⟨rfl, rfl⟩ := trodVars_none hV
  have k0 := h0
  have lt0 : ∀ x ∈ p0, x.block < W.heap.size := by obtain ⟨m, hm⟩ := k0; exact DataW.trod_lt m _ _ _ hm
  have k1 := h1
  have lt1 : ∀ x ∈ p1, x.block < W.heap.size := by obtain ⟨m, hm⟩ := k1; exact DataW.trod_lt m _ _ _ hm
  obtain ⟨a0, a1, a2, y0, y1, y2, n, rfl, _, _, g0, g1, g2⟩ := open_agg3 Yba.underlying24 (by kernel_rfl) cells24 (hval 0 24 v0 rfl rfl) h0
  obtain ⟨b0, b1, b2, z0, z1, z2, n', rfl, _, _, e0, e1, e2⟩ := open_agg3 Yba.underlying24 (by kernel_rfl) cells24 (hval 1 24 v1 rfl rfl) h1
  obtain ⟨s0, rfl, o0⟩ := sl_of g0
  obtain ⟨s1, rfl, o1⟩ := sl_of g1
  obtain ⟨s2, rfl, o2⟩ := sl_of g2
  obtain ⟨t0, rfl, u0⟩ := sl_of e0
  obtain ⟨t1, rfl, u1⟩ := sl_of e1
  obtain ⟨t2, rfl, u2⟩ := sl_of e2
  clear hA0 hval0
  refine (walk s0 s1 s2 t0 t1 t2 W o0 o1 o2 u0 u1 u2).mono fun e W' ⟨he, bel⟩ => ?_
  subst he
  exact ⟨_, rfl, _, _, _, [], _, [], hW', trodAll_mk1 (shut_bool Yba.underlying4 _), (trodAll_cons_mk (Below.trod laidOut (by kernel_rfl) (of_decide_eq_true (by kernel_rfl)) k0 bel lt0) (trodAll_cons_mk (Below.trod laidOut (by kernel_rfl) (of_decide_eq_true (by kernel_rfl)) k1 bel lt1) trodAll_mk0)), rfl, bel.frame _, fun h => by cases h⟩

theorem over : Rows.lawS5376CTextRow.holds Yba.pinned (OpenSpec.ofChange Rows.lawS5376CTextSpec) :=
  OpenClaim.holds_of_wide 3 Yba.f3 rfl rfl rfl rfl rfl rfl rfl ⟨rfl, rfl, rfl, rfl, rfl⟩ rfl rfl rfl rfl rfl (by kernel_rfl) Yba.func3 (by kernel_rfl)
    (of_decide_eq_true (by kernel_rfl)) (by unfold Func.isWrapper; first | (rw [if_pos (by decide +kernel)]; kernel_rfl) | (rw [if_neg (by decide +kernel)]; exact ⟨rfl, rfl⟩))
    (fun os started H enc _ => lifted os started H enc)
end Go.Proofs.Ybulkdghu.text

namespace Go.Proofs.Ybulkdghu
/-- THE STATEMENT. -/
theorem lawS5376CText_holds : Rows.LawS5376CTextSaid := text.over
#print axioms lawS5376CText_holds
end Go.Proofs.Ybulkdghu
