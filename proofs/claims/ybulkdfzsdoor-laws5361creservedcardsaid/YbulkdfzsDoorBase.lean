/-
  The frame as an abstract Act: slots, parts of a body, a loop by an invariant that bears a number. Own text, of no program.
-/
import Derived.Test.YbulkdfzsDoorProg
import Derived.WalkKit
import Derived.WalkSpells
import Derived.WalkLawsBesides
import Derived.Below
import Derived.Deep.LoopGhost
import Derived.Deep.WholeRow
namespace Go.Proofs.YbulkdfzsDoor.T
open Go.RowKit
set_option linter.unusedVariables false
set_option linter.unusedSimpArgs false

/-- What slot i of the frame holds. -/
def slot (a : Act) (i : Nat) : Value := a.tmps.getD i undef
/-- The frame is one of n slots, nothing deferred. -/
def Fr (n : Nat) (a : Act) : Prop := a.tmps.size = n ∧ a.defers = []
/-- The n-th part of a chain of 'seq's; 'seqRest n': all from the n-th on. -/
def seqPart : Nat → Code → Code
  | 0, .seq a _ => a
  | n + 1, .seq _ b => seqPart n b
  | _, c => c
def seqRest : Nat → Code → Code
  | 0, c => c
  | n + 1, .seq _ b => seqRest n b
  | _, c => c
/-- The body of a function. -/
def bodyOf (f : Func) : Code := f.body.getD .skip

theorem toList_range (l : List Value) : l = (List.range l.length).map (fun i => l.getD i undef) := by
  apply List.ext_getElem
  · simp
  · intro i h1 h2
    simp [h1]


set_option maxRecDepth 100000 in
theorem to_lit16 {a : Act} (h : Fr 16 a) : ∃ u : Nat → Value, a = ⟨List.toArray (u 0 :: u 1 :: u 2 :: u 3 :: u 4 :: u 5 :: u 6 :: u 7 :: u 8 :: u 9 :: u 10 :: u 11 :: u 12 :: u 13 :: u 14 :: u 15 :: []), []⟩ ∧ ∀ i, i < 16 → slot a i = u i := by
  obtain ⟨t, d⟩ := a
  obtain ⟨l⟩ := t
  obtain ⟨h1, h2⟩ := h
  have hl : l.length = 16 := h1
  have hd : d = [] := h2
  subst hd
  have e := toList_range l
  rw [hl] at e
  refine ⟨fun i => l.getD i undef, ?_, fun i hi => by simp [slot]⟩
  generalize hu : (fun i => l.getD i undef) = u at e ⊢
  have e2 : (List.range 16).map u = (u 0 :: u 1 :: u 2 :: u 3 :: u 4 :: u 5 :: u 6 :: u 7 :: u 8 :: u 9 :: u 10 :: u 11 :: u 12 :: u 13 :: u 14 :: u 15 :: []) := by kernel_rfl
  rw [e2] at e
  rw [e]

/-- The slots of the set K hold what v says. -/
def Keep (K : List Nat) (v : Nat → Value) (a : Act) : Prop := ∀ i, i ∈ K → slot a i = v i

/-- A LOOP by an invariant that bears a number which every round lowers; in the round the end stands behind a variable 'R'. -/
theorem loop_rule {P : Program} {Q : Exit → Act → World → Prop} {a : Act} {w : World} {c : Code} (I : Nat → Act → World → Prop) (n₀ : Nat) (h₀ : I n₀ a w)
    (round : ∀ n a w, I n a w → ∀ R : Exit → Act → World → Prop, Hid (∀ m a' w', m < n → I m a' w' → R .normal a' w') → Hid (∀ e a' w', e ≠ .normal → Q e a' w' → R e a' w') → c.wp P R a w) : (Code.loop c).wp P Q a w :=
  wp_loop_ghost I n₀ h₀ fun n a w h => round n a w h _ (fun m a' w' hm hI => ⟨m, hm, hI⟩)
    (fun e a' w' he hq => by cases e <;> first | exact absurd rfl he | exact hq)

theorem hide {p : Prop} (h : p) : Hid p := h

/-- A region of three plain operations, each by its run. -/
theorem wp_region3 {P : Program} {id : Nat} {o1 o2 o3 : Oper} {Q : Exit → Act → World → Prop} {a : Act} {w : World} (g1 : o1.guard = none) (g2 : o2.guard = none) (g3 : o3.guard = none) (v1 v2 : Value) (w2 w3 : World)
    (r1 : (execOp a.eval o1).run P w = .ok (.value v1) w) (r2 : (execOp (a.put o1.dst v1).eval o2).run P w = .ok (.value v2) w2) (r3 : (execOp ((a.put o1.dst v1).put o2.dst v2).eval o3).run P w2 = .ok .skip w3)
    (h : Q .normal (((a.put o1.dst v1).put o2.dst v2).put o3.dst undef) w3) : (Code.region id #[o1, o2, o3] false).wp P Q a w := by
  refine wp_region_lit ?_
  refine wpList_plain g1 fun K hK => ?_
  unfold Oper.wp
  rw [r1, Oper.upon_value]
  refine hK _ _ (wpList_plain g2 fun K2 hK2 => ?_)
  unfold Oper.wp
  rw [r2, Oper.upon_value]
  refine hK2 _ _ (wpList_plain g3 fun K3 hK3 => ?_)
  unfold Oper.wp
  rw [r3, Oper.upon_skip]
  exact hK3 _ _ (wpList_nil h)
end Go.Proofs.YbulkdfzsDoor.T
