/-
  The frame as an abstract Act: slots, parts of a body, a loop by an invariant that bears a number. Own text, of no program.
-/
import Derived.Test.YbulkdghuProg
import Derived.WalkKit
import Derived.WalkSpells
import Derived.WalkLawsBesides
import Derived.Below
import Derived.Deep.LoopGhost
import Derived.Deep.OwnRows
import Derived.Lib.Bytealg
import Derived.Laws.BytesArg
namespace Go.Proofs.Ybulkdghu.T
open Go.RowKit
set_option linter.unusedVariables false
set_option linter.unusedSimpArgs false

/-- What slot i of the frame holds. -/
def slot (a : Act) (i : Nat) : Value := a.tmps.getD i undef
/-- The frame is one of n slots, nothing deferred. -/
def Fr (n : Nat) (a : Act) : Prop := a.tmps.size = n ∧ a.defers = []
/-- The n-th part of a chain of 'seq's; 'seqRest n': all from the n-th on. -/
def seqPart : Nat → Code → Code
  | 0, .seq a _ => a
  | n + 1, .seq _ b => seqPart n b
  | _, c => c
def seqRest : Nat → Code → Code
  | 0, c => c
  | n + 1, .seq _ b => seqRest n b
  | _, c => c
/-- The body of a function. -/
def bodyOf (f : Func) : Code := f.body.getD .skip

theorem toList_range (l : List Value) : l = (List.range l.length).map (fun i => l.getD i undef) := by
  apply List.ext_getElem
  · simp
  · intro i h1 h2
    simp [h1]


set_option maxRecDepth 100000 in
theorem to_lit30 {a : Act} (h : Fr 30 a) : ∃ u : Nat → Value, a = ⟨List.toArray (u 0 :: u 1 :: u 2 :: u 3 :: u 4 :: u 5 :: u 6 :: u 7 :: u 8 :: u 9 :: u 10 :: u 11 :: u 12 :: u 13 :: u 14 :: u 15 :: u 16 :: u 17 :: u 18 :: u 19 :: u 20 :: u 21 :: u 22 :: u 23 :: u 24 :: u 25 :: u 26 :: u 27 :: u 28 :: u 29 :: []), []⟩ ∧ ∀ i, i < 30 → slot a i = u i := by
  obtain ⟨t, d⟩ := a
  obtain ⟨l⟩ := t
  obtain ⟨h1, h2⟩ := h
  have hl : l.length = 30 := h1
  have hd : d = [] := h2
  subst hd
  have e := toList_range l
  rw [hl] at e
  refine ⟨fun i => l.getD i undef, ?_, fun i hi => by simp [slot]⟩
  generalize hu : (fun i => l.getD i undef) = u at e ⊢
  have e2 : (List.range 30).map u = (u 0 :: u 1 :: u 2 :: u 3 :: u 4 :: u 5 :: u 6 :: u 7 :: u 8 :: u 9 :: u 10 :: u 11 :: u 12 :: u 13 :: u 14 :: u 15 :: u 16 :: u 17 :: u 18 :: u 19 :: u 20 :: u 21 :: u 22 :: u 23 :: u 24 :: u 25 :: u 26 :: u 27 :: u 28 :: u 29 :: []) := by kernel_rfl
  rw [e2] at e
  rw [e]

/-- The slots of the set K hold what v says. -/
def Keep (K : List Nat) (v : Nat → Value) (a : Act) : Prop := ∀ i, i ∈ K → slot a i = v i

/-- A LOOP by an invariant that bears a number which every round lowers; in the round the end stands behind a variable 'R'. -/
theorem loop_rule {P : Program} {Q : Exit → Act → World → Prop} {a : Act} {w : World} {c : Code} (I : Nat → Act → World → Prop) (n₀ : Nat) (h₀ : I n₀ a w)
    (round : ∀ n a w, I n a w → ∀ R : Exit → Act → World → Prop, Hid (∀ m a' w', m < n → I m a' w' → R .normal a' w') → Hid (∀ e a' w', e ≠ .normal → Q e a' w' → R e a' w') → c.wp P R a w) : (Code.loop c).wp P Q a w :=
  wp_loop_ghost I n₀ h₀ fun n a w h => round n a w h _ (fun m a' w' hm hI => ⟨m, hm, hI⟩)
    (fun e a' w' he hq => by cases e <;> first | exact absurd rfl he | exact hq)

theorem hide {p : Prop} (h : p) : Hid p := h
/-- A slice of integers that came in: of each place below its length the cell. -/
def Arg (k : IntKind) (w : World) (a : Option Addr) (len : Nat) (zs : List Int) : Prop :=
  ∀ i, i < len → ∃ b off, a = some ⟨b, off, none⟩ ∧ w.cell? ⟨b, off + i, none⟩ = some (.int k (zs.getD i 0)) ∧ b < w.heap.size
theorem arg_later {k : IntKind} {w w' : World} {a : Option Addr} {len : Nat} {zs : List Int} (h : Arg k w a len zs) (hb : Below w.heap.size w w') : Arg k w' a len zs := by
  intro i hi
  obtain ⟨b, off, e, hc, hlt⟩ := h i hi
  exact ⟨b, off, e, (hb.cell (p := ⟨b, off + i, none⟩) hlt).trans hc, by have := hb.size; omega⟩
theorem size_setCell (w : World) (a : Addr) (v : Value) : (w.setCell a v).heap.size = w.heap.size := by simp [World.setCell]
theorem info5 : (Yba.prog.info? 5).map (fun i => (i.zero, i.size, i.bytes)) = some (some (.int .u8 0), 1, 1) := by kernel_rfl
end Go.Proofs.Ybulkdghu.T
