/-
  THE PLAIN LAW: comparing the parts is comparing the texts. Lists of bytes alone.
-/
import Derived.Test.YbulkdghuThru
namespace Go.Proofs.Ybulkdghu.T
open Go.Lib (compareBytes)
set_option linter.unusedVariables false
set_option linter.unusedSimpArgs false

theorem cmpI_byte (x y : UInt8) : cmpI (x.toNat : Int) (y.toNat : Int) = if x < y then -1 else if y < x then 1 else 0 := by
  unfold cmpI
  have e1 : ((x.toNat : Int) < (y.toNat : Int)) = (x < y) := by apply propext; rw [UInt8.lt_iff_toNat_lt]; omega
  have e2 : ((y.toNat : Int) < (x.toNat : Int)) = (y < x) := by apply propext; rw [UInt8.lt_iff_toNat_lt]; omega
  simp only [e1, e2]

theorem ct_nil : ct [] [] 58 = 0 := by decide
theorem ct_nil_cons (y : UInt8) (b : List UInt8) : ct [] (y :: b) 58 = if (58 : UInt8) < y then -1 else if y < 58 then 1 else 0 := by
  have h : ct [] (y :: b) 58 = cmpI ((58 : UInt8).toNat : Int) (y.toNat : Int) := by
    rw [ct_lt (by simp)]
    simp [compareBytes]
  rw [h, cmpI_byte]
theorem ct_cons_nil (x : UInt8) (a : List UInt8) : ct (x :: a) [] 58 = if x < (58 : UInt8) then -1 else if (58 : UInt8) < x then 1 else 0 := by
  have h : ct (x :: a) [] 58 = cmpI (x.toNat : Int) ((58 : UInt8).toNat : Int) := by
    rw [ct_gt (by simp)]
    simp [compareBytes]
  rw [h, cmpI_byte]
theorem ct_cons (x y : UInt8) (a b : List UInt8) : ct (x :: a) (y :: b) 58 = if x < y then -1 else if y < x then 1 else ct a b 58 := by
  unfold ct
  have em : min (x :: a).length (y :: b).length = min a.length b.length + 1 := by simp only [List.length_cons]; omega
  rw [em, List.take_succ_cons, List.take_succ_cons]
  have ec : compareBytes (x :: a.take (min a.length b.length)) (y :: b.take (min a.length b.length)) = if x < y then -1 else if y < x then 1 else compareBytes (a.take (min a.length b.length)) (b.take (min a.length b.length)) := rfl
  rw [ec]
  by_cases h1 : x < y
  · simp [h1]
  · by_cases h2 : y < x
    · simp [h1, h2]
    · simp only [h1, h2, if_false, List.length_cons, Nat.add_lt_add_iff_right, List.getD_cons_succ]

theorem ne_58 {y : UInt8} (h : y ≠ 58) : (58 : UInt8) < y ∨ ¬ (58 : UInt8) < y ∧ y < 58 := by
  rcases UInt8.lt_or_lt_of_ne h with h1 | h1
  · exact Or.inr ⟨fun h2 => by rw [UInt8.lt_iff_toNat_lt] at *; omega, h1⟩
  · exact Or.inl h1

/-- The types, with the sign that follows them. -/
theorem types_law : ∀ (a b : List UInt8), (∀ x ∈ a, x ≠ 58) → (∀ x ∈ b, x ≠ 58) → ∀ X Y, compareBytes (a ++ 58 :: X) (b ++ 58 :: Y) = if ct a b 58 ≠ 0 then ct a b 58 else compareBytes X Y
  | [], [], _, _, X, Y => by
    rw [ct_nil]
    show (if (58 : UInt8) < 58 then (-1 : Int) else if (58 : UInt8) < 58 then 1 else compareBytes X Y) = _
    simp
  | [], y :: b, _, hb, X, Y => by
    rw [ct_nil_cons]
    show (if (58 : UInt8) < y then (-1 : Int) else if y < 58 then 1 else compareBytes X (b ++ 58 :: Y)) = _
    rcases ne_58 (hb y (by simp)) with h | ⟨h, h'⟩
    · simp [h]
    · simp [h, h']
  | x :: a, [], ha, _, X, Y => by
    rw [ct_cons_nil]
    show (if x < (58 : UInt8) then (-1 : Int) else if (58 : UInt8) < x then 1 else compareBytes (a ++ 58 :: X) Y) = _
    rcases ne_58 (ha x (by simp)) with h | ⟨h, h'⟩
    · have h2 : ¬ x < 58 := fun h2 => by rw [UInt8.lt_iff_toNat_lt] at *; omega
      simp [h, h2]
    · simp [h']
  | x :: a, y :: b, ha, hb, X, Y => by
    rw [ct_cons]
    show (if x < y then (-1 : Int) else if y < x then 1 else compareBytes (a ++ 58 :: X) (b ++ 58 :: Y)) = _
    by_cases h1 : x < y
    · simp [h1]
    · by_cases h2 : y < x
      · simp [h1, h2]
      · simp only [h1, h2, if_false]
        exact types_law a b (fun z hz => ha z (by simp [hz])) (fun z hz => hb z (by simp [hz])) X Y

/-- What follows an id in the text. -/
def tl (r : List UInt8) : List UInt8 := if r = [] then [] else 35 :: r

theorem rels_law (r s : List UInt8) : compareBytes (tl r) (tl s) = compareBytes r s := by
  cases r with
  | nil =>
    cases s with
    | nil => rfl
    | cons y s => rfl
  | cons x r =>
    cases s with
    | nil => rfl
    | cons y s =>
      show (if (35 : UInt8) < 35 then (-1 : Int) else if (35 : UInt8) < 35 then 1 else compareBytes (x :: r) (y :: s)) = _
      simp

/-- The ids, with what follows them. -/
theorem ids_law : ∀ (a b : List UInt8), (∀ x ∈ a, 35 < x) → (∀ x ∈ b, 35 < x) → ∀ r s, compareBytes (a ++ tl r) (b ++ tl s) = if compareBytes a b ≠ 0 then compareBytes a b else compareBytes r s
  | [], [], _, _, r, s => by
    show compareBytes (tl r) (tl s) = _
    rw [rels_law]
    simp [compareBytes]
  | [], y :: b, _, hb, r, s => by
    have hy := hb y (by simp)
    show compareBytes (tl r) (y :: (b ++ tl s)) = _
    cases r with
    | nil => rfl
    | cons x r =>
      show (if (35 : UInt8) < y then (-1 : Int) else if y < 35 then 1 else compareBytes (x :: r) (b ++ tl s)) = _
      simp [hy, compareBytes]
  | x :: a, [], ha, _, r, s => by
    have hx := ha x (by simp)
    have hx2 : ¬ x < 35 := fun h => by rw [UInt8.lt_iff_toNat_lt] at *; omega
    show compareBytes (x :: (a ++ tl r)) (tl s) = _
    cases s with
    | nil => rfl
    | cons y s =>
      show (if x < (35 : UInt8) then (-1 : Int) else if (35 : UInt8) < x then 1 else compareBytes (a ++ tl r) (y :: s)) = _
      simp [hx, hx2, compareBytes]
  | x :: a, y :: b, ha, hb, r, s => by
    show (if x < y then (-1 : Int) else if y < x then 1 else compareBytes (a ++ tl r) (b ++ tl s)) = if (if x < y then (-1 : Int) else if y < x then 1 else compareBytes a b) ≠ 0 then (if x < y then (-1 : Int) else if y < x then 1 else compareBytes a b) else compareBytes r s
    by_cases h1 : x < y
    · simp [h1]
    · by_cases h2 : y < x
      · simp [h1, h2]
      · simp only [h1, h2, if_false]
        exact ids_law a b (fun z hz => ha z (by simp [hz])) (fun z hz => hb z (by simp [hz])) r s

/-- THE LAW. -/
theorem text_law (at_ ai ar bt bi br : List UInt8) (h1 : ∀ x ∈ at_, x ≠ 58) (h2 : ∀ x ∈ bt, x ≠ 58) (h3 : ∀ x ∈ ai, 35 < x) (h4 : ∀ x ∈ bi, 35 < x) :
    cs at_ ai ar bt bi br = compareBytes (at_ ++ 58 :: (ai ++ tl ar)) (bt ++ 58 :: (bi ++ tl br)) := by
  rw [types_law at_ bt h1 h2, ids_law ai bi h3 h4]
  unfold cs co
  by_cases hc : ct at_ bt 58 = 0
  · simp only [hc, ne_eq, not_true_eq_false, if_false]
  · simp only [ne_eq, hc, not_false_eq_true, if_true]
end Go.Proofs.Ybulkdghu.T
