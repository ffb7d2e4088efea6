/-
  THE FRAME OF LawS5361AReset AS AN ABSTRACT Act: what a slot holds ('slot'), the parts of the body ('seqPart'), the frame written out ('to_lit'). Own text.
-/
import Derived.Test.YbulkdfzsProg
import Derived.WalkKit
import Derived.WalkSpells
import Derived.WalkLawsBesides
import Derived.Below
import Derived.Deep.OwnRows
import Derived.Deep.LoopGhost
namespace Go.Proofs.Ybulkdfzs.AR
open Go.RowKit
set_option linter.unusedVariables false
set_option linter.unusedSimpArgs false

/-- What slot i of the frame holds. -/
def slot (a : Act) (i : Nat) : Value := a.tmps.getD i undef
/-- The frame is one of n slots, nothing deferred. -/
def Fr (n : Nat) (a : Act) : Prop := a.tmps.size = n ∧ a.defers = []
/-- The n-th part of a chain of 'seq's; 'seqRest n': all from the n-th on. -/
def seqPart : Nat → Code → Code
  | 0, .seq a _ => a
  | n + 1, .seq _ b => seqPart n b
  | _, c => c
def seqRest : Nat → Code → Code
  | 0, c => c
  | n + 1, .seq _ b => seqRest n b
  | _, c => c
/-- The body of a function. -/
def bodyOf (f : Func) : Code := f.body.getD .skip

theorem toList_range (l : List Value) : l = (List.range l.length).map (fun i => l.getD i undef) := by
  apply List.ext_getElem
  · simp
  · intro i h1 h2
    simp [h1]

set_option maxRecDepth 100000 in
theorem to_lit {a : Act} (h : Fr 299 a) : ∃ u : Nat → Value, a = ⟨List.toArray (u 0 :: u 1 :: u 2 :: u 3 :: u 4 :: u 5 :: u 6 :: u 7 :: u 8 :: u 9 :: u 10 :: u 11 :: u 12 :: u 13 :: u 14 :: u 15 :: u 16 :: u 17 :: u 18 :: u 19 :: u 20 :: u 21 :: u 22 :: u 23 :: u 24 :: u 25 :: u 26 :: u 27 :: u 28 :: u 29 :: u 30 :: u 31 :: u 32 :: u 33 :: u 34 :: u 35 :: u 36 :: u 37 :: u 38 :: u 39 :: u 40 :: u 41 :: u 42 :: u 43 :: u 44 :: u 45 :: u 46 :: u 47 :: u 48 :: u 49 :: u 50 :: u 51 :: u 52 :: u 53 :: u 54 :: u 55 :: u 56 :: u 57 :: u 58 :: u 59 :: u 60 :: u 61 :: u 62 :: u 63 :: u 64 :: u 65 :: u 66 :: u 67 :: u 68 :: u 69 :: u 70 :: u 71 :: u 72 :: u 73 :: u 74 :: u 75 :: u 76 :: u 77 :: u 78 :: u 79 :: u 80 :: u 81 :: u 82 :: u 83 :: u 84 :: u 85 :: u 86 :: u 87 :: u 88 :: u 89 :: u 90 :: u 91 :: u 92 :: u 93 :: u 94 :: u 95 :: u 96 :: u 97 :: u 98 :: u 99 :: u 100 :: u 101 :: u 102 :: u 103 :: u 104 :: u 105 :: u 106 :: u 107 :: u 108 :: u 109 :: u 110 :: u 111 :: u 112 :: u 113 :: u 114 :: u 115 :: u 116 :: u 117 :: u 118 :: u 119 :: u 120 :: u 121 :: u 122 :: u 123 :: u 124 :: u 125 :: u 126 :: u 127 :: u 128 :: u 129 :: u 130 :: u 131 :: u 132 :: u 133 :: u 134 :: u 135 :: u 136 :: u 137 :: u 138 :: u 139 :: u 140 :: u 141 :: u 142 :: u 143 :: u 144 :: u 145 :: u 146 :: u 147 :: u 148 :: u 149 :: u 150 :: u 151 :: u 152 :: u 153 :: u 154 :: u 155 :: u 156 :: u 157 :: u 158 :: u 159 :: u 160 :: u 161 :: u 162 :: u 163 :: u 164 :: u 165 :: u 166 :: u 167 :: u 168 :: u 169 :: u 170 :: u 171 :: u 172 :: u 173 :: u 174 :: u 175 :: u 176 :: u 177 :: u 178 :: u 179 :: u 180 :: u 181 :: u 182 :: u 183 :: u 184 :: u 185 :: u 186 :: u 187 :: u 188 :: u 189 :: u 190 :: u 191 :: u 192 :: u 193 :: u 194 :: u 195 :: u 196 :: u 197 :: u 198 :: u 199 :: u 200 :: u 201 :: u 202 :: u 203 :: u 204 :: u 205 :: u 206 :: u 207 :: u 208 :: u 209 :: u 210 :: u 211 :: u 212 :: u 213 :: u 214 :: u 215 :: u 216 :: u 217 :: u 218 :: u 219 :: u 220 :: u 221 :: u 222 :: u 223 :: u 224 :: u 225 :: u 226 :: u 227 :: u 228 :: u 229 :: u 230 :: u 231 :: u 232 :: u 233 :: u 234 :: u 235 :: u 236 :: u 237 :: u 238 :: u 239 :: u 240 :: u 241 :: u 242 :: u 243 :: u 244 :: u 245 :: u 246 :: u 247 :: u 248 :: u 249 :: u 250 :: u 251 :: u 252 :: u 253 :: u 254 :: u 255 :: u 256 :: u 257 :: u 258 :: u 259 :: u 260 :: u 261 :: u 262 :: u 263 :: u 264 :: u 265 :: u 266 :: u 267 :: u 268 :: u 269 :: u 270 :: u 271 :: u 272 :: u 273 :: u 274 :: u 275 :: u 276 :: u 277 :: u 278 :: u 279 :: u 280 :: u 281 :: u 282 :: u 283 :: u 284 :: u 285 :: u 286 :: u 287 :: u 288 :: u 289 :: u 290 :: u 291 :: u 292 :: u 293 :: u 294 :: u 295 :: u 296 :: u 297 :: u 298 :: []), []⟩ ∧ ∀ i, i < 299 → slot a i = u i := by
  obtain ⟨t, d⟩ := a
  obtain ⟨l⟩ := t
  obtain ⟨h1, h2⟩ := h
  have hl : l.length = 299 := h1
  have hd : d = [] := h2
  subst hd
  have e := toList_range l
  rw [hl] at e
  refine ⟨fun i => l.getD i undef, ?_, fun i hi => by simp [slot]⟩
  generalize hu : (fun i => l.getD i undef) = u at e ⊢
  have e2 : (List.range 299).map u = (u 0 :: u 1 :: u 2 :: u 3 :: u 4 :: u 5 :: u 6 :: u 7 :: u 8 :: u 9 :: u 10 :: u 11 :: u 12 :: u 13 :: u 14 :: u 15 :: u 16 :: u 17 :: u 18 :: u 19 :: u 20 :: u 21 :: u 22 :: u 23 :: u 24 :: u 25 :: u 26 :: u 27 :: u 28 :: u 29 :: u 30 :: u 31 :: u 32 :: u 33 :: u 34 :: u 35 :: u 36 :: u 37 :: u 38 :: u 39 :: u 40 :: u 41 :: u 42 :: u 43 :: u 44 :: u 45 :: u 46 :: u 47 :: u 48 :: u 49 :: u 50 :: u 51 :: u 52 :: u 53 :: u 54 :: u 55 :: u 56 :: u 57 :: u 58 :: u 59 :: u 60 :: u 61 :: u 62 :: u 63 :: u 64 :: u 65 :: u 66 :: u 67 :: u 68 :: u 69 :: u 70 :: u 71 :: u 72 :: u 73 :: u 74 :: u 75 :: u 76 :: u 77 :: u 78 :: u 79 :: u 80 :: u 81 :: u 82 :: u 83 :: u 84 :: u 85 :: u 86 :: u 87 :: u 88 :: u 89 :: u 90 :: u 91 :: u 92 :: u 93 :: u 94 :: u 95 :: u 96 :: u 97 :: u 98 :: u 99 :: u 100 :: u 101 :: u 102 :: u 103 :: u 104 :: u 105 :: u 106 :: u 107 :: u 108 :: u 109 :: u 110 :: u 111 :: u 112 :: u 113 :: u 114 :: u 115 :: u 116 :: u 117 :: u 118 :: u 119 :: u 120 :: u 121 :: u 122 :: u 123 :: u 124 :: u 125 :: u 126 :: u 127 :: u 128 :: u 129 :: u 130 :: u 131 :: u 132 :: u 133 :: u 134 :: u 135 :: u 136 :: u 137 :: u 138 :: u 139 :: u 140 :: u 141 :: u 142 :: u 143 :: u 144 :: u 145 :: u 146 :: u 147 :: u 148 :: u 149 :: u 150 :: u 151 :: u 152 :: u 153 :: u 154 :: u 155 :: u 156 :: u 157 :: u 158 :: u 159 :: u 160 :: u 161 :: u 162 :: u 163 :: u 164 :: u 165 :: u 166 :: u 167 :: u 168 :: u 169 :: u 170 :: u 171 :: u 172 :: u 173 :: u 174 :: u 175 :: u 176 :: u 177 :: u 178 :: u 179 :: u 180 :: u 181 :: u 182 :: u 183 :: u 184 :: u 185 :: u 186 :: u 187 :: u 188 :: u 189 :: u 190 :: u 191 :: u 192 :: u 193 :: u 194 :: u 195 :: u 196 :: u 197 :: u 198 :: u 199 :: u 200 :: u 201 :: u 202 :: u 203 :: u 204 :: u 205 :: u 206 :: u 207 :: u 208 :: u 209 :: u 210 :: u 211 :: u 212 :: u 213 :: u 214 :: u 215 :: u 216 :: u 217 :: u 218 :: u 219 :: u 220 :: u 221 :: u 222 :: u 223 :: u 224 :: u 225 :: u 226 :: u 227 :: u 228 :: u 229 :: u 230 :: u 231 :: u 232 :: u 233 :: u 234 :: u 235 :: u 236 :: u 237 :: u 238 :: u 239 :: u 240 :: u 241 :: u 242 :: u 243 :: u 244 :: u 245 :: u 246 :: u 247 :: u 248 :: u 249 :: u 250 :: u 251 :: u 252 :: u 253 :: u 254 :: u 255 :: u 256 :: u 257 :: u 258 :: u 259 :: u 260 :: u 261 :: u 262 :: u 263 :: u 264 :: u 265 :: u 266 :: u 267 :: u 268 :: u 269 :: u 270 :: u 271 :: u 272 :: u 273 :: u 274 :: u 275 :: u 276 :: u 277 :: u 278 :: u 279 :: u 280 :: u 281 :: u 282 :: u 283 :: u 284 :: u 285 :: u 286 :: u 287 :: u 288 :: u 289 :: u 290 :: u 291 :: u 292 :: u 293 :: u 294 :: u 295 :: u 296 :: u 297 :: u 298 :: []) := by kernel_rfl
  rw [e2] at e
  rw [e]


/-- The slots of the set K hold what v says. -/
def Keep (K : List Nat) (v : Nat → Value) (a : Act) : Prop := ∀ i, i ∈ K → slot a i = v i

/-- A LOOP by an invariant that bears a number which every round lowers; in the round the end stands behind a variable 'R'. -/
theorem loop_rule {P : Program} {Q : Exit → Act → World → Prop} {a : Act} {w : World} {c : Code} (I : Nat → Act → World → Prop) (n₀ : Nat) (h₀ : I n₀ a w)
    (round : ∀ n a w, I n a w → ∀ R : Exit → Act → World → Prop, Hid (∀ m a' w', m < n → I m a' w' → R .normal a' w') → Hid (∀ e a' w', e ≠ .normal → Q e a' w' → R e a' w') → c.wp P R a w) : (Code.loop c).wp P Q a w :=
  wp_loop_ghost I n₀ h₀ fun n a w h => round n a w h _ (fun m a' w' hm hI => ⟨m, hm, hI⟩)
    (fun e a' w' he hq => by cases e <;> first | exact absurd rfl he | exact hq)

/-- 'make([]T, n)', n a variable, an element of whatever number of cells. -/
theorem make_k {P : Program} (t e : TypeId) (z : Value) (size bytes : Nat) (ht : P.underlying t = some (.slice e)) (hinfo : (P.info? e).map (fun i => (i.zero, i.size, i.bytes)) = some (some z, size, bytes))
    (kl kc : IntKind) (n : Nat) (hb : bytes * n ≤ 281474976710656) (hn : n ≤ 9223372036854775807) (w : World) :
    (Instr.makeSlice t (.int kl (n : Int)) (.int kc (n : Int))).run P w = .ok (.slice (some ⟨w.heap.size, 0, none⟩) n n) (w.alloc (.cells (madeCells z.cells (n * size)) e)) := by
  obtain ⟨i, hi, hz, hs, hby⟩ := info_parts hinfo
  have h2 : (i.bytes : Int) * (n : Int) ≤ 281474976710656 := by
    have h3 : ((bytes * n : Nat) : Int) ≤ 281474976710656 := by omega
    rw [hby]
    rwa [Int.natCast_mul] at h3
  have h := run_make (P := P) w t e i z ht hi hz kl kc n n (by omega) (Int.le_refl _) h2 (by omega)
  simpa [hs] using h

theorem rowIs_make (w : World) (z : Array Value) (n : Nat) (t : TypeId) (f : Nat → Value) (h : ∀ j, j < n → z[j % z.size]! = f j) : (w.alloc (.cells (madeCells z n) t)).rowIs w.heap.size t n f :=
  ⟨madeCells z n, Go.Deep.blk_alloc_new _ _, size_madeCells _ _, fun i hi => by simp [madeCells, hi, ← h i hi]⟩

theorem info28 : (Yba.prog.info? 28).map (fun i => (i.zero, i.size, i.bytes)) = some (some (.agg #[.int .u32 0, .int .i32 0, .bool false, .bool false]), 4, 12) := by kernel_rfl
theorem info37 : (Yba.prog.info? 37).map (fun i => (i.zero, i.size, i.bytes)) = some (some (.agg #[.slice none 0 0, .slice none 0 0]), 2, 48) := by kernel_rfl
theorem info26 : (Yba.prog.info? 26).map (fun i => (i.zero, i.size, i.bytes)) = some (some (.int .u32 0), 1, 4) := by kernel_rfl
theorem info32 : (Yba.prog.info? 32).map (fun i => (i.zero, i.size, i.bytes)) = some (some (.pointer none), 1, 8) := by kernel_rfl
theorem info33 : (Yba.prog.info? 33).map (fun i => (i.zero, i.size, i.bytes)) = some (some (.pointer none), 1, 8) := by kernel_rfl

/-- A slice of integers that came in: of each place below its length the cell. -/
def Arg (k : IntKind) (w : World) (a : Option Addr) (len : Nat) (zs : List Int) : Prop :=
  ∀ i, i < len → ∃ b off, a = some ⟨b, off, none⟩ ∧ w.cell? ⟨b, off + i, none⟩ = some (.int k (zs.getD i 0)) ∧ b < w.heap.size
theorem hide {p : Prop} (h : p) : Hid p := h
theorem size_setCell (w : World) (a : Addr) (v : Value) : (w.setCell a v).heap.size = w.heap.size := by simp [World.setCell]
/-- A piece of code that ends plainly, and in no other way. -/
theorem wp_plainly {P : Program} {c : Code} {Q : Exit → Act → World → Prop} {a : Act} {w : World} (h : c.wp P (Exit.then (Q .normal) (fun _ _ _ => False)) a w) : c.wp P Q a w :=
  wp_mono h fun e _ _ hq => by cases e <;> first | exact hq | exact hq.elim
end Go.Proofs.Ybulkdfzs.AR
