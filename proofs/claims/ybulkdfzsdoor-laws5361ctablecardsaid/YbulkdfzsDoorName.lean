import Derived.Test.YbulkdfzsDoorBase
namespace Go.Proofs.YbulkdfzsDoor.T
open Go.RowKit
set_option linter.unusedVariables false
set_option linter.unusedSimpArgs false
set_option maxRecDepth 100000

/-- The names that the law draws from. -/
def nms : Array Value := #[.string ⟨#[110, 117, 108, 108]⟩, .string ⟨#[98, 111, 111, 108]⟩, .string ⟨#[105, 110, 116, 56]⟩, .string ⟨#[105, 110, 116, 49, 54]⟩, .string ⟨#[105, 110, 116, 51, 50]⟩, .string ⟨#[105, 110, 116, 54, 52]⟩, .string ⟨#[117, 105, 110, 116, 56]⟩, .string ⟨#[117, 105, 110, 116, 49, 54]⟩, .string ⟨#[117, 105, 110, 116, 51, 50]⟩, .string ⟨#[117, 105, 110, 116, 54, 52]⟩, .string ⟨#[102, 108, 111, 97, 116, 51, 50]⟩, .string ⟨#[102, 108, 111, 97, 116, 54, 52]⟩, .string ⟨#[115, 116, 114]⟩, .string ⟨#[97, 110, 121]⟩, .string ⟨#[110, 101, 118, 101, 114]⟩, .string ⟨#[105, 110, 116]⟩, .string ⟨#[117, 105, 110, 116]⟩, .string ⟨#[102, 108, 111, 97, 116]⟩, .string ⟨#[98, 121, 116, 101]⟩, .string ⟨#[115, 116, 114, 105, 110, 103]⟩, .string ⟨#[]⟩, .string ⟨#[73, 110, 116]⟩, .string ⟨#[105, 110, 116, 49, 50, 56]⟩, .string ⟨#[115, 116, 114, 115]⟩, .string ⟨#[109, 97, 112]⟩, .string ⟨#[102, 117, 110]⟩, .string ⟨#[78, 117, 108, 108]⟩, .string ⟨#[117, 105, 110, 116, 32]⟩]
def zrs : Array Value := #[.string ⟨#[]⟩, .string ⟨#[]⟩, .string ⟨#[]⟩, .string ⟨#[]⟩, .string ⟨#[]⟩, .string ⟨#[]⟩, .string ⟨#[]⟩, .string ⟨#[]⟩, .string ⟨#[]⟩, .string ⟨#[]⟩, .string ⟨#[]⟩, .string ⟨#[]⟩, .string ⟨#[]⟩, .string ⟨#[]⟩, .string ⟨#[]⟩, .string ⟨#[]⟩, .string ⟨#[]⟩, .string ⟨#[]⟩, .string ⟨#[]⟩, .string ⟨#[]⟩, .string ⟨#[]⟩, .string ⟨#[]⟩, .string ⟨#[]⟩, .string ⟨#[]⟩, .string ⟨#[]⟩, .string ⟨#[]⟩, .string ⟨#[]⟩, .string ⟨#[]⟩]

theorem nms_at (k : Nat) (h : k < 28) : ∃ s : ByteArray, s.size ≤ maxLen ∧ nms[k]? = some (.string s) := by
  match k, h with
  | 0, _ => exact ⟨_, by decide, rfl⟩
  | 1, _ => exact ⟨_, by decide, rfl⟩
  | 2, _ => exact ⟨_, by decide, rfl⟩
  | 3, _ => exact ⟨_, by decide, rfl⟩
  | 4, _ => exact ⟨_, by decide, rfl⟩
  | 5, _ => exact ⟨_, by decide, rfl⟩
  | 6, _ => exact ⟨_, by decide, rfl⟩
  | 7, _ => exact ⟨_, by decide, rfl⟩
  | 8, _ => exact ⟨_, by decide, rfl⟩
  | 9, _ => exact ⟨_, by decide, rfl⟩
  | 10, _ => exact ⟨_, by decide, rfl⟩
  | 11, _ => exact ⟨_, by decide, rfl⟩
  | 12, _ => exact ⟨_, by decide, rfl⟩
  | 13, _ => exact ⟨_, by decide, rfl⟩
  | 14, _ => exact ⟨_, by decide, rfl⟩
  | 15, _ => exact ⟨_, by decide, rfl⟩
  | 16, _ => exact ⟨_, by decide, rfl⟩
  | 17, _ => exact ⟨_, by decide, rfl⟩
  | 18, _ => exact ⟨_, by decide, rfl⟩
  | 19, _ => exact ⟨_, by decide, rfl⟩
  | 20, _ => exact ⟨_, by decide, rfl⟩
  | 21, _ => exact ⟨_, by decide, rfl⟩
  | 22, _ => exact ⟨_, by decide, rfl⟩
  | 23, _ => exact ⟨_, by decide, rfl⟩
  | 24, _ => exact ⟨_, by decide, rfl⟩
  | 25, _ => exact ⟨_, by decide, rfl⟩
  | 26, _ => exact ⟨_, by decide, rfl⟩
  | 27, _ => exact ⟨_, by decide, rfl⟩
  | n + 28, h => omega

theorem info29 : (Ybad.prog.info? 29).map (·.size) = some nms.size := by kernel_rfl

/-- The array of the names is laid into a new block. -/
theorem name1 (p : Int) (v1 v2 : Value) (a : Act) (w : World) (Q : Exit → Act → World → Prop) (hF : Fr 16 a) (h0 : slot a 0 = .int .u8 p) (h1 : slot a 1 = v1) (h2 : slot a 2 = v2)
    (hnext : Hid (∀ a', Fr 16 a' → slot a' 0 = .int .u8 p → slot a' 1 = v1 → slot a' 2 = v2 → slot a' 7 = .pointer (some ⟨w.heap.size, 0, none⟩) → Q .normal a' (w.alloc (.cells nms 29)))) :
    Code.wp Ybad.prog (seqPart 1 (bodyOf Ybad.f5)) Q a w := by
  obtain ⟨u, rfl, hu⟩ := to_lit16 hF
  have e0 := (hu 0 (by omega)).symm.trans h0
  have e1 := (hu 1 (by omega)).symm.trans h1
  have e2 := (hu 2 (by omega)).symm.trans h2
  clear hu hF h0 h1 h2
  conv => arg 2; whnf
  rw [e0, e1, e2]
  refine wp_region3 rfl rfl rfl (.agg nms) (.pointer (some ⟨w.heap.size, 0, none⟩)) (w.alloc (.cells zrs 29)) (w.alloc (.cells nms 29)) (by kernel_rfl) (by kernel_rfl) ?_ ?_
  · have hst := run_storeAt_new (P := Ybad.prog) w 29 zrs nms info29 (by kernel_rfl) (by kernel_rfl)
    show (do let _ ← Instr.storeAt 29 (.pointer (some ⟨w.heap.size, 0, none⟩)) (.agg nms); pure Next.skip).run Ybad.prog (w.alloc (.cells zrs 29)) = _
    rw [Sem.run_bind, hst]
    rfl
  · exact hnext.out _ ⟨rfl, rfl⟩ rfl rfl rfl rfl
end Go.Proofs.YbulkdfzsDoor.T
