/-
  No cell of these rows narrows 'for every input' (looked for: loops, veiled, ifaces, maps, wideKeys, modest, calm, conditions, laid).
  DERIVED. THE GIVEN ROWS OF THIS SEAT. 4 by the template 'for every input the law returns true; each argument reads behind the call as it read before'; 0 by the template 'total and deterministic' (their statements: YbulkdgbwTotals.lean).
  GIVEN WITH THE SEED: the statements are not yours to turn. If you find one false, say at which input.
  Laid BY PROGRAM, IN A SANDBOX (cutbox-rows.mjs): the forced cells as the released guide's own fill.sh prints them over the translation 582f646addc66f9d… (all of the seat's roots in one cut). By AI agents, Wed Nov 11 2026. No macro, syntax, notation, axiom, sorry.
-/
import Derived.Test.YbulkdgbwChecked
import GoSem.Claim
import GoSem.ClaimJoined
import GoSem.ClaimMapViews
import Derived.JoinedTies
import Derived.KernelRfl
namespace Go.Proofs.Ybulkdgbw
/- THE CELL 'sum', in the pinned program and in every row, IS THE sha256 OF THE DUMP (.gsa) THAT YbulkdgbwProg.lean LOADS. Nothing in Lean hashes anything: it is a label: what it is worth is what the hold of that sum in a sandbox is worth. -/
noncomputable def Yba.pinned : Pinned := { name := "ybulkdgbw", sum := "582f646addc66f9d5a7c252b35c00d01011cb0d8887520f628f939a8e256ad5d", checked := Yba.checked }
namespace Rows
def none {H : Type} : Left H := { results := [], args := [] }

/-- 'sim.LawS5365BPoolOf': WHATEVER THE INPUT: true; the input reads as it did. -/
def lawS5365BPoolOfSpec : ChangeSpec := { name := "lawS5365BPoolOf", fn := fun _ => fun
  | [d1, d2] => { results := [.lit (.bool true)], args := [d1, d2] }
  | _ => none }
def lawS5365BPoolOfRow : OpenClaim := { program := "ybulkdgbw", sum := "582f646addc66f9d5a7c252b35c00d01011cb0d8887520f628f939a8e256ad5d", func := "example.com/corefill/corefill/sim.LawS5365BPoolOf", spec := "lawS5365BPoolOf", apart := false }
def LawS5365BPoolOfSaid : Prop := lawS5365BPoolOfRow.holds Yba.pinned (OpenSpec.ofChange lawS5365BPoolOfSpec)

/-- ITS FALSE NEIGHBOUR: 'it returns false'. Refute it at one input. -/
def lawS5365BPoolOfWrong : ChangeSpec := { name := "lawS5365BPoolOf", fn := fun _ => fun
  | [d1, d2] => { results := [.lit (.bool false)], args := [d1, d2] }
  | _ => none }
def LawS5365BPoolOfWrongFalsely : Prop := lawS5365BPoolOfRow.holds Yba.pinned (OpenSpec.ofChange lawS5365BPoolOfWrong)

/-- 'sim.LawS5365BPoolSame': WHATEVER THE INPUT: true; the input reads as it did. -/
def lawS5365BPoolSameSpec : ChangeSpec := { name := "lawS5365BPoolSame", fn := fun _ => fun
  | [d] => { results := [.lit (.bool true)], args := [d] }
  | _ => none }
def lawS5365BPoolSameRow : OpenClaim := { program := "ybulkdgbw", sum := "582f646addc66f9d5a7c252b35c00d01011cb0d8887520f628f939a8e256ad5d", func := "example.com/corefill/corefill/sim.LawS5365BPoolSame", spec := "lawS5365BPoolSame", apart := false }
def LawS5365BPoolSameSaid : Prop := lawS5365BPoolSameRow.holds Yba.pinned (OpenSpec.ofChange lawS5365BPoolSameSpec)

/-- ITS FALSE NEIGHBOUR: 'it returns false'. Refute it at one input. -/
def lawS5365BPoolSameWrong : ChangeSpec := { name := "lawS5365BPoolSame", fn := fun _ => fun
  | [d] => { results := [.lit (.bool false)], args := [d] }
  | _ => none }
def LawS5365BPoolSameWrongFalsely : Prop := lawS5365BPoolSameRow.holds Yba.pinned (OpenSpec.ofChange lawS5365BPoolSameWrong)

/-- 'experiment.LawS5365CHandOut': WHATEVER THE INPUT: true; the input reads as it did. -/
def lawS5365CHandOutSpec : ChangeSpec := { name := "lawS5365CHandOut", fn := fun _ => fun
  | [d1, d2, d3, d4, d5] => { results := [.lit (.bool true)], args := [d1, d2, d3, d4, d5] }
  | _ => none }
def lawS5365CHandOutRow : OpenClaim := { program := "ybulkdgbw", sum := "582f646addc66f9d5a7c252b35c00d01011cb0d8887520f628f939a8e256ad5d", func := "example.com/corefill/corefill/experiment.LawS5365CHandOut", spec := "lawS5365CHandOut", inPlace := ["(*internal/sync.Mutex).Lock", "internal/race.Disable", "sync/atomic.CompareAndSwapInt32", "internal/race.Enable", "internal/race.Acquire", "(*internal/sync.Mutex).lockSlow", "internal/sync.runtime_canSpin", "internal/sync.runtime_doSpin", "internal/sync.throw", "internal/sync.runtime_nanotime", "internal/sync.runtime_SemacquireMutex", "sync/atomic.AddInt32", "(*internal/sync.Mutex).Unlock", "internal/race.ReleaseMerge", "(*internal/sync.Mutex).unlockSlow", "internal/sync.fatal", "internal/sync.runtime_Semrelease", "math.Float64bits"], apart := false }
def LawS5365CHandOutSaid : Prop := lawS5365CHandOutRow.holds Yba.pinned (OpenSpec.ofChange lawS5365CHandOutSpec)

/-- ITS FALSE NEIGHBOUR: 'it returns false'. Refute it at one input. -/
def lawS5365CHandOutWrong : ChangeSpec := { name := "lawS5365CHandOut", fn := fun _ => fun
  | [d1, d2, d3, d4, d5] => { results := [.lit (.bool false)], args := [d1, d2, d3, d4, d5] }
  | _ => none }
def LawS5365CHandOutWrongFalsely : Prop := lawS5365CHandOutRow.holds Yba.pinned (OpenSpec.ofChange lawS5365CHandOutWrong)

/-- 'experiment.LawS5365CScript': WHATEVER THE INPUT: true; the input reads as it did. -/
def lawS5365CScriptSpec : ChangeSpec := { name := "lawS5365CScript", fn := fun _ => fun
  | [d1, d2] => { results := [.lit (.bool true)], args := [d1, d2] }
  | _ => none }
def lawS5365CScriptRow : OpenClaim := { program := "ybulkdgbw", sum := "582f646addc66f9d5a7c252b35c00d01011cb0d8887520f628f939a8e256ad5d", func := "example.com/corefill/corefill/experiment.LawS5365CScript", spec := "lawS5365CScript", inPlace := ["(*internal/sync.Mutex).Lock", "internal/race.Disable", "sync/atomic.CompareAndSwapInt32", "internal/race.Enable", "internal/race.Acquire", "(*internal/sync.Mutex).lockSlow", "internal/sync.runtime_canSpin", "internal/sync.runtime_doSpin", "internal/sync.throw", "internal/sync.runtime_nanotime", "internal/sync.runtime_SemacquireMutex", "sync/atomic.AddInt32", "(*internal/sync.Mutex).Unlock", "internal/race.ReleaseMerge", "(*internal/sync.Mutex).unlockSlow", "internal/sync.fatal", "internal/sync.runtime_Semrelease", "math.Float64bits"], apart := false }
def LawS5365CScriptSaid : Prop := lawS5365CScriptRow.holds Yba.pinned (OpenSpec.ofChange lawS5365CScriptSpec)

/-- ITS FALSE NEIGHBOUR: 'it returns false'. Refute it at one input. -/
def lawS5365CScriptWrong : ChangeSpec := { name := "lawS5365CScript", fn := fun _ => fun
  | [d1, d2] => { results := [.lit (.bool false)], args := [d1, d2] }
  | _ => none }
def LawS5365CScriptWrongFalsely : Prop := lawS5365CScriptRow.holds Yba.pinned (OpenSpec.ofChange lawS5365CScriptWrong)

end Rows
end Go.Proofs.Ybulkdgbw
