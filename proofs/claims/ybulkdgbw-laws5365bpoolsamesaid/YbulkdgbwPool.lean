/-
  The walks of LawS5365BPoolOf and LawS5365BPoolSame; poolOf by its contract at each dynamic type.
-/
import Derived.Test.YbulkdgbwProg
import Derived.WalkKit
import Derived.WalkSpells
import Derived.WalkLawsBesides
import Derived.Below
namespace Go.Proofs.Ybulkdgbw
open Go.RowKit
set_option linter.unusedVariables false
set_option linter.unusedSimpArgs false

/-- The names of the wanted methods that are not there. -/
def lacks (want : Array (String × TypeId)) (got : Array Method) : List (String × TypeId) := want.toList.filter fun (name, sig) => !got.any fun m => m.name == name && m.sig == sig

theorem least_some {l : List String} (h : l ≠ []) : ∃ m, Instr.least l = some m := by
  cases l with
  | nil => exact absurd rfl h
  | cons s r => exact ⟨_, rfl⟩

theorem filter_or {α : Type} (p : α → Bool) (l : List α) (h1 : l ≠ []) (he : l.filter (fun x => !p x) = []) : l.filter p ≠ [] := by
  intro hu
  cases l with
  | nil => exact h1 rfl
  | cons s r =>
    cases hc : p s with
    | true => simp [List.filter_cons, hc] at hu
    | false => simp [List.filter_cons, hc] at he

/-- Where a wanted method is not there, one is named. -/
theorem missing_some {want : Array (String × TypeId)} {got : Array Method} (h : lacks want got ≠ []) : ∃ m, Instr.missingMethod want got = some m := by
  have h1 : (lacks want got).map (·.1) ≠ [] := by simpa using h
  unfold Instr.missingMethod
  show ∃ m, (match ((lacks want got).map (·.1)).partition (·.contains '.') with | (unexported, exported) => Instr.least exported <|> Instr.least (unexported.map fun id => (id.splitOn ".").getLastD id)) = some m
  generalize (lacks want got).map (·.1) = l at h1
  rw [List.partition_eq_filter_filter]
  by_cases he : l.filter (fun x => !(x.contains '.')) = []
  · have hu : l.filter (fun x => x.contains '.') ≠ [] := filter_or (fun x : String => x.contains '.') l h1 he
    obtain ⟨m, hm⟩ := least_some (l := (l.filter (fun x => x.contains '.')).map fun id => (id.splitOn ".").getLastD id) (by simpa using hu)
    refine ⟨m, ?_⟩
    show (Instr.least (l.filter (not ∘ fun x => x.contains '.')) <|> Instr.least ((l.filter (fun x => x.contains '.')).map fun id => (id.splitOn ".").getLastD id)) = some m
    have he' : l.filter (not ∘ fun x => x.contains '.') = [] := he
    rw [he', hm]
    rfl
  · obtain ⟨m, hm⟩ := least_some he
    refine ⟨m, ?_⟩
    show (Instr.least (l.filter (fun x => !(x.contains '.'))) <|> _) = some m
    rw [hm]
    rfl

theorem lack24 : (match Yba.prog.underlying 66 with | some (.interface W) => (Yba.prog.info? 24).map fun i => (lacks W i.methods).isEmpty | _ => none) = some false := by kernel_rfl

theorem assert_plain (a : Addr) (w : World) : (Instr.typeAssert (.iface 24 (.pointer (some a))) 23 66 true).run Yba.prog w = .ok (.tuple #[.nilIface, .bool false]) w := by
  have hl := lack24
  have zero : (zeroValue 66).run Yba.prog w = .ok .nilIface w := by kernel_rfl
  obtain ⟨W, hW⟩ : ∃ W, Yba.prog.underlying 66 = some (.interface W) := ⟨_, Yba.underlying66⟩
  rw [hW] at hl
  cases hi : Yba.prog.info? 24 with
  | none => rw [hi] at hl; cases hl
  | some i =>
    rw [hi] at hl
    obtain ⟨m, hm⟩ := missing_some (want := W) (got := i.methods) (by
      intro e
      simp [e] at hl)
    simp [Instr.typeAssert, run_underlying hW, typeInfo, hi, hm, zero]
theorem assert_pool (a : Addr) (w : World) : (Instr.typeAssert (.iface 27 (.pointer (some a))) 23 66 true).run Yba.prog w = .ok (.tuple #[.iface 27 (.pointer (some a)), .bool true]) w := by kernel_rfl
theorem assert_nil (w : World) : (Instr.typeAssert .nilIface 23 66 true).run Yba.prog w = .ok (.tuple #[.nilIface, .bool false]) w := by kernel_rfl

theorem pool_nil (c : Int) (w : World) : Calls Yba.prog 7 #[.nilIface, .int .i64 c] w fun e w' => e = .returned (.int .i64 0) ∧ w' = w := by
  have h := assert_nil
  go_enter Yba.func7, Yba.ntmps7
  go_wp2
  go_ret
  exact ⟨rfl, rfl⟩
theorem pool_plain (a : Addr) (c : Int) (w : World) : Calls Yba.prog 7 #[.iface 24 (.pointer (some a)), .int .i64 c] w fun e w' => e = .returned (.int .i64 0) ∧ w' = w := by
  have h := assert_plain a
  go_enter Yba.func7, Yba.ntmps7
  go_wp2
  go_ret
  exact ⟨rfl, rfl⟩
theorem pool_pool (a : Addr) (c : Int) (w : World) : Calls Yba.prog 7 #[.iface 27 (.pointer (some a)), .int .i64 c] w fun e w' => e = .returned (.int .i64 c) ∧ w' = w := by
  have h := assert_pool a
  go_enter Yba.func7, Yba.ntmps7
  go_wp2
  go_ret
  exact ⟨rfl, rfl⟩

set_option maxHeartbeats 400000 in
/-- LawS5365BPoolOf. -/
theorem poolOf_law (t c : Int) (ht0 : 0 ≤ t) (ht : t ≤ 255) (w : World) : Calls Yba.prog 3 #[.int .u8 t, .int .i64 c] w fun e w' => e = .returned (.bool true) ∧ Grown w w' := by
  rcases (show t % 3 = 0 ∨ t % 3 = 1 ∨ t % 3 = 2 from by omega) with h | h | h
  · go_enter Yba.func3, Yba.ntmps3
    go_wp2_with (go_at_call 7; refine (pool_nil c _).mono ?_; rintro e w' ⟨rfl, rfl⟩)
    go_ret
    exact ⟨rfl, by repeat (first | exact Grown.refl _ | apply Grown.drew | apply Grown.alloc)⟩
  · go_enter Yba.func3, Yba.ntmps3
    go_wp2_with (go_at_call 7; refine (pool_plain _ c _).mono ?_; rintro e w' ⟨rfl, rfl⟩)
    go_ret
    exact ⟨rfl, by repeat (first | exact Grown.refl _ | apply Grown.drew | apply Grown.alloc)⟩
  · go_enter Yba.func3, Yba.ntmps3
    go_wp2_with (go_at_call 7; refine (pool_pool _ c _).mono ?_; rintro e w' ⟨rfl, rfl⟩)
    go_ret
    exact ⟨rfl, by repeat (first | exact Grown.refl _ | apply Grown.drew | apply Grown.alloc)⟩

set_option maxHeartbeats 400000 in
/-- LawS5365BPoolSame. -/
theorem poolSame_law (c : Int) (w : World) : Calls Yba.prog 4 #[.int .i64 c] w fun e w' => e = .returned (.bool true) ∧ Grown w w' := by
  go_enter Yba.func4, Yba.ntmps4
  go_wp2_with fail
  refine (pool_plain _ c _).mono ?_
  rintro e w' ⟨rfl, rfl⟩
  go_wp2_with fail
  refine (pool_pool _ c _).mono ?_
  rintro e w' ⟨rfl, rfl⟩
  go_wp2
  go_ret
  exact ⟨rfl, by repeat (first | exact Grown.refl _ | apply Grown.drew | apply Grown.alloc)⟩
end Go.Proofs.Ybulkdgbw
