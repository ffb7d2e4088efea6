/-
  THE PLAIN LAW OF THE TRIES: what a word of a typeSet stands for ('Enc'); bits of numbers. No Go in sight. Own text.
-/
namespace Go.Proofs.Ybulkdfzs.Pl

/-- The word s stands for the list l, by the nodes N (zero side, one side), by a trie of depth D at most. -/
def Enc (N : List (Nat × Nat)) : Nat → Nat → List Nat → Prop
  | 0, s, l => 0 < s ∧ s < 2147483648 ∧ l = [s]
  | D + 1, s, l => (0 < s ∧ s < 2147483648 ∧ l = [s]) ∨ ∃ i z o l1 l2, s = 2147483648 + i ∧ l = l1 ++ l2 ∧ N[i]? = some (z, o) ∧ i < 2147483648 ∧ Enc N D z l1 ∧ Enc N D o l2

theorem Enc.leaf {N : List (Nat × Nat)} (D x : Nat) (h0 : 0 < x) (h1 : x < 2147483648) : Enc N D x [x] := by
  cases D with
  | zero => exact ⟨h0, h1, rfl⟩
  | succ D => exact .inl ⟨h0, h1, rfl⟩
theorem Enc.node {N : List (Nat × Nat)} (D i z o : Nat) (l1 l2 : List Nat) (hi : N[i]? = some (z, o)) (hlt : i < 2147483648) (g1 : Enc N D z l1) (g2 : Enc N D o l2) : Enc N (D + 1) (2147483648 + i) (l1 ++ l2) :=
  .inr ⟨i, z, o, l1, l2, rfl, rfl, hi, hlt, g1, g2⟩
/-- The two ways. -/
theorem Enc.parts {N : List (Nat × Nat)} {D s : Nat} {l : List Nat} (h : Enc N D s l) :
    (0 < s ∧ s < 2147483648 ∧ l = [s]) ∨ ∃ E i z o l1 l2, D = E + 1 ∧ s = 2147483648 + i ∧ l = l1 ++ l2 ∧ N[i]? = some (z, o) ∧ i < 2147483648 ∧ Enc N E z l1 ∧ Enc N E o l2 := by
  cases D with
  | zero => exact .inl h
  | succ D =>
    rcases h with h | ⟨i, z, o, l1, l2, h⟩
    · exact .inl h
    · exact .inr ⟨D, i, z, o, l1, l2, rfl, h⟩

theorem Enc.grow {N : List (Nat × Nat)} (M : List (Nat × Nat)) : ∀ {D s : Nat} {l : List Nat}, Enc N D s l → Enc (N ++ M) D s l := by
  intro D
  induction D with
  | zero => intro s l h; exact h
  | succ D ih =>
    intro s l h
    rcases h with h | ⟨i, z, o, l1, l2, hs, hl, hi, hlt, g1, g2⟩
    · exact .inl h
    · refine .inr ⟨i, z, o, l1, l2, hs, hl, ?_, hlt, ih g1, ih g2⟩
      have hle := (List.getElem?_eq_some_iff.1 hi).1
      rw [List.getElem?_append_left hle]
      exact hi
theorem Enc.deep {N : List (Nat × Nat)} : ∀ {D s : Nat} {l : List Nat}, Enc N D s l → ∀ {D' : Nat}, D ≤ D' → Enc N D' s l := by
  intro D
  induction D with
  | zero =>
    intro s l h D' _
    obtain ⟨h0, h1, rfl⟩ := h
    exact .leaf D' s h0 h1
  | succ D ih =>
    intro s l h D' hd
    obtain ⟨k, rfl⟩ : ∃ k, D' = k + 1 := ⟨D' - 1, by omega⟩
    rcases h with h | ⟨i, z, o, l1, l2, hs, hl, hi, hlt, g1, g2⟩
    · exact .inl h
    · exact .inr ⟨i, z, o, l1, l2, hs, hl, hi, hlt, ih g1 (by omega), ih g2 (by omega)⟩

/-- The elements at a, a+1, .., n of them. -/
def seg (e : Nat → Nat) (a n : Nat) : List Nat := (List.range n).map fun t => e (a + t)
theorem seg_append (e : Nat → Nat) (a k n : Nat) (h : k ≤ n) : seg e a k ++ seg e (a + k) (n - k) = seg e a n := by
  apply List.ext_getElem
  · simp [seg]; omega
  · intro i h1 h2
    simp only [seg, List.length_append, List.length_map, List.length_range] at h1
    by_cases hi : i < k
    · rw [List.getElem_append_left (by simpa [seg] using hi)]
      simp [seg]
    · rw [List.getElem_append_right (by simp [seg]; omega)]
      simp only [seg, List.getElem_map, List.getElem_range, List.length_map, List.length_range]
      congr 1
      omega

theorem and_pow (a j : Nat) : a &&& 2 ^ j = 0 ↔ a / 2 ^ j % 2 = 0 := by
  have h := Nat.testBit_eq_decide_div_mod_eq (x := a) (i := j)
  constructor
  · intro h0
    have h1 : (a &&& 2 ^ j).testBit j = false := by rw [h0]; simp
    rw [Nat.testBit_and, Nat.testBit_two_pow_self, Bool.and_true, h] at h1
    simp only [decide_eq_false_iff_not] at h1
    omega
  · intro h0
    apply Nat.eq_of_testBit_eq
    intro i
    rw [Nat.testBit_and, Nat.testBit_two_pow, Nat.zero_testBit]
    by_cases e : j = i
    · subst e
      rw [h]
      simp [h0]
    · simp [e]

theorem xor0 {x y : Nat} (h : x ^^^ y = 0) : x = y := by
  apply Nat.eq_of_testBit_eq
  intro i
  have h1 : (x ^^^ y).testBit i = false := by rw [h]; simp
  rw [Nat.testBit_xor] at h1
  cases hx : x.testBit i <;> cases hy : y.testBit i <;> simp_all

/-- Two numbers, the highest bit in which they differ: j. -/
theorem xor_top {a b j : Nat} (hab : a < b) (h1 : a ^^^ b < 2 ^ (j + 1)) (h2 : (a ^^^ b) &&& 2 ^ j ≠ 0) : a / 2 ^ (j + 1) = b / 2 ^ (j + 1) ∧ a / 2 ^ j % 2 = 0 ∧ b / 2 ^ j % 2 = 1 := by
  have e1 : a / 2 ^ (j + 1) = b / 2 ^ (j + 1) := by
    have h : (a ^^^ b) >>> (j + 1) = 0 := by rw [Nat.shiftRight_eq_div_pow]; exact Nat.div_eq_of_lt h1
    rw [Nat.shiftRight_xor_distrib] at h
    have := xor0 h
    rwa [Nat.shiftRight_eq_div_pow, Nat.shiftRight_eq_div_pow] at this
  have h3 : (a ^^^ b) / 2 ^ j % 2 ≠ 0 := fun h => h2 ((and_pow _ _).2 h)
  have h4 : (a ^^^ b).testBit j = true := by rw [Nat.testBit_eq_decide_div_mod_eq]; simp; omega
  rw [Nat.testBit_xor, Nat.testBit_eq_decide_div_mod_eq, Nat.testBit_eq_decide_div_mod_eq] at h4
  have h5 : a / 2 ^ j % 2 ≠ b / 2 ^ j % 2 := by
    intro h
    rw [h] at h4
    simp at h4
  have ea : a / 2 ^ j / 2 = a / 2 ^ (j + 1) := by rw [Nat.div_div_eq_div_mul, ← Nat.pow_succ]
  have eb : b / 2 ^ j / 2 = b / 2 ^ (j + 1) := by rw [Nat.div_div_eq_div_mul, ← Nat.pow_succ]
  have hle : a / 2 ^ j ≤ b / 2 ^ j := Nat.div_le_div_right (Nat.le_of_lt hab)
  refine ⟨e1, ?_, ?_⟩ <;> omega

/-- Among numbers of one head the bit is what lies below or from the middle on. -/
theorem bit_mono {a b j : Nat} (hab : a ≤ b) (h : a / 2 ^ (j + 1) = b / 2 ^ (j + 1)) : a / 2 ^ j % 2 ≤ b / 2 ^ j % 2 := by
  have ea : a / 2 ^ j / 2 = a / 2 ^ (j + 1) := by rw [Nat.div_div_eq_div_mul, ← Nat.pow_succ]
  have eb : b / 2 ^ j / 2 = b / 2 ^ (j + 1) := by rw [Nat.div_div_eq_div_mul, ← Nat.pow_succ]
  have hle : a / 2 ^ j ≤ b / 2 ^ j := Nat.div_le_div_right hab
  omega
theorem head_of {a b j : Nat} (h : a / 2 ^ (j + 1) = b / 2 ^ (j + 1)) (h2 : a / 2 ^ j % 2 = b / 2 ^ j % 2) : a / 2 ^ j = b / 2 ^ j := by
  have ea : a / 2 ^ j / 2 = a / 2 ^ (j + 1) := by rw [Nat.div_div_eq_div_mul, ← Nat.pow_succ]
  have eb : b / 2 ^ j / 2 = b / 2 ^ (j + 1) := by rw [Nat.div_div_eq_div_mul, ← Nat.pow_succ]
  omega
/-- Where two numbers agree from B on, their highest differing bit lies below B. -/
theorem top_lt {a b j B : Nat} (hB : a / 2 ^ B = b / 2 ^ B) (h : a / 2 ^ j ≠ b / 2 ^ j) : j < B := by
  rcases Nat.lt_or_ge j B with h1 | h1
  · exact h1
  · exfalso
    obtain ⟨k, rfl⟩ : ∃ k, j = B + k := ⟨j - B, by omega⟩
    apply h
    rw [Nat.pow_add, ← Nat.div_div_eq_div_mul, ← Nat.div_div_eq_div_mul, hB]
end Go.Proofs.Ybulkdfzs.Pl
