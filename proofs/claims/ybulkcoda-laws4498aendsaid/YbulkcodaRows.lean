/-
  No cell of these rows narrows 'for every input' (looked for: loops, veiled, ifaces, maps, wideKeys, modest, calm, conditions, laid).
  DERIVED. THE GIVEN ROWS OF THIS SEAT. 5 by the template 'for every input the law returns true; each argument reads behind the call as it read before'; 0 by the template 'total and deterministic' (their statements: YbulkcodaTotals.lean).
  GIVEN WITH THE SEED: the statements are not yours to turn. If you find one false, say at which input.
  Laid BY PROGRAM, IN A SANDBOX (cutbox-rows.mjs): the forced cells as the released guide's own fill.sh prints them over the translation d3160a9b8027969b… (all of the seat's roots in one cut). By AI agents, Wed Nov 11 2026. No macro, syntax, notation, axiom, sorry.
-/
import Derived.Test.YbulkcodaChecked
import GoSem.Claim
import GoSem.ClaimJoined
import GoSem.ClaimMapViews
import Derived.JoinedTies
import Derived.KernelRfl
namespace Go.Proofs.Ybulkcoda
/- THE CELL 'sum', in the pinned program and in every row, IS THE sha256 OF THE DUMP (.gsa) THAT YbulkcodaProg.lean LOADS. Nothing in Lean hashes anything: it is a label: what it is worth is what the hold of that sum in a sandbox is worth. -/
noncomputable def Yba.pinned : Pinned := { name := "ybulkcoda", sum := "d3160a9b8027969b213bbd164376ad6c341a6f9b6cf52f0f0bdbb8e93b4c0918", checked := Yba.checked }
namespace Rows
def none {H : Type} : Left H := { results := [], args := [] }

/-- 'sim.LawS4498AEnd': WHATEVER THE INPUT: true; the input reads as it did. -/
def lawS4498AEndSpec : ChangeSpec := { name := "lawS4498AEnd", fn := fun _ => fun
  | [d1, d2, d3, d4, d5] => { results := [.lit (.bool true)], args := [d1, d2, d3, d4, d5] }
  | _ => none }
def lawS4498AEndRow : OpenClaim := { program := "ybulkcoda", sum := "d3160a9b8027969b213bbd164376ad6c341a6f9b6cf52f0f0bdbb8e93b4c0918", func := "example.com/copyhold/copyhold/sim.LawS4498AEnd", spec := "lawS4498AEnd", unfollowed := true, recurses := true, apart := false }
def LawS4498AEndSaid : Prop := lawS4498AEndRow.holds Yba.pinned (OpenSpec.ofChange lawS4498AEndSpec)

/-- ITS FALSE NEIGHBOUR: 'it returns false'. Refute it at one input. -/
def lawS4498AEndWrong : ChangeSpec := { name := "lawS4498AEnd", fn := fun _ => fun
  | [d1, d2, d3, d4, d5] => { results := [.lit (.bool false)], args := [d1, d2, d3, d4, d5] }
  | _ => none }
def LawS4498AEndWrongFalsely : Prop := lawS4498AEndRow.holds Yba.pinned (OpenSpec.ofChange lawS4498AEndWrong)

/-- 'analysis.LawS4498BFirst': WHATEVER THE INPUT: true; the input reads as it did. -/
def lawS4498BFirstSpec : ChangeSpec := { name := "lawS4498BFirst", fn := fun _ => fun
  | [d] => { results := [.lit (.bool true)], args := [d] }
  | _ => none }
def lawS4498BFirstRow : OpenClaim := { program := "ybulkcoda", sum := "d3160a9b8027969b213bbd164376ad6c341a6f9b6cf52f0f0bdbb8e93b4c0918", func := "example.com/copyhold/copyhold/analysis.LawS4498BFirst", spec := "lawS4498BFirst", apart := false }
def LawS4498BFirstSaid : Prop := lawS4498BFirstRow.holds Yba.pinned (OpenSpec.ofChange lawS4498BFirstSpec)

/-- ITS FALSE NEIGHBOUR: 'it returns false'. Refute it at one input. -/
def lawS4498BFirstWrong : ChangeSpec := { name := "lawS4498BFirst", fn := fun _ => fun
  | [d] => { results := [.lit (.bool false)], args := [d] }
  | _ => none }
def LawS4498BFirstWrongFalsely : Prop := lawS4498BFirstRow.holds Yba.pinned (OpenSpec.ofChange lawS4498BFirstWrong)

/-- 'analysis.LawS4498BExact': WHATEVER THE INPUT: true; the input reads as it did. -/
def lawS4498BExactSpec : ChangeSpec := { name := "lawS4498BExact", fn := fun _ => fun
  | [d] => { results := [.lit (.bool true)], args := [d] }
  | _ => none }
def lawS4498BExactRow : OpenClaim := { program := "ybulkcoda", sum := "d3160a9b8027969b213bbd164376ad6c341a6f9b6cf52f0f0bdbb8e93b4c0918", func := "example.com/copyhold/copyhold/analysis.LawS4498BExact", spec := "lawS4498BExact", apart := false }
def LawS4498BExactSaid : Prop := lawS4498BExactRow.holds Yba.pinned (OpenSpec.ofChange lawS4498BExactSpec)

/-- ITS FALSE NEIGHBOUR: 'it returns false'. Refute it at one input. -/
def lawS4498BExactWrong : ChangeSpec := { name := "lawS4498BExact", fn := fun _ => fun
  | [d] => { results := [.lit (.bool false)], args := [d] }
  | _ => none }
def LawS4498BExactWrongFalsely : Prop := lawS4498BExactRow.holds Yba.pinned (OpenSpec.ofChange lawS4498BExactWrong)

/-- 'live.LawS4498CKept': WHATEVER THE INPUT: true; the input reads as it did. -/
def lawS4498CKeptSpec : ChangeSpec := { name := "lawS4498CKept", fn := fun _ => fun
  | [d1, d2] => { results := [.lit (.bool true)], args := [d1, d2] }
  | _ => none }
def lawS4498CKeptRow : OpenClaim := { program := "ybulkcoda", sum := "d3160a9b8027969b213bbd164376ad6c341a6f9b6cf52f0f0bdbb8e93b4c0918", func := "example.com/copyhold/copyhold/live.LawS4498CKept", spec := "lawS4498CKept", inPlace := ["(*internal/sync.Mutex).Lock", "internal/race.Disable", "sync/atomic.CompareAndSwapInt32", "internal/race.Enable", "internal/race.Acquire", "(*internal/sync.Mutex).lockSlow", "internal/sync.runtime_canSpin", "internal/sync.runtime_doSpin", "internal/sync.throw", "internal/sync.runtime_nanotime", "internal/sync.runtime_SemacquireMutex", "sync/atomic.AddInt32", "(*internal/sync.Mutex).Unlock", "internal/race.ReleaseMerge", "(*internal/sync.Mutex).unlockSlow", "internal/sync.fatal", "internal/sync.runtime_Semrelease"], apart := false }
def LawS4498CKeptSaid : Prop := lawS4498CKeptRow.holds Yba.pinned (OpenSpec.ofChange lawS4498CKeptSpec)

/-- ITS FALSE NEIGHBOUR: 'it returns false'. Refute it at one input. -/
def lawS4498CKeptWrong : ChangeSpec := { name := "lawS4498CKept", fn := fun _ => fun
  | [d1, d2] => { results := [.lit (.bool false)], args := [d1, d2] }
  | _ => none }
def LawS4498CKeptWrongFalsely : Prop := lawS4498CKeptRow.holds Yba.pinned (OpenSpec.ofChange lawS4498CKeptWrong)

/-- 'live.LawS4498CScript': WHATEVER THE INPUT: true; the input reads as it did. -/
def lawS4498CScriptSpec : ChangeSpec := { name := "lawS4498CScript", fn := fun _ => fun
  | [d] => { results := [.lit (.bool true)], args := [d] }
  | _ => none }
def lawS4498CScriptRow : OpenClaim := { program := "ybulkcoda", sum := "d3160a9b8027969b213bbd164376ad6c341a6f9b6cf52f0f0bdbb8e93b4c0918", func := "example.com/copyhold/copyhold/live.LawS4498CScript", spec := "lawS4498CScript", inPlace := ["(*internal/sync.Mutex).Lock", "internal/race.Disable", "sync/atomic.CompareAndSwapInt32", "internal/race.Enable", "internal/race.Acquire", "(*internal/sync.Mutex).lockSlow", "internal/sync.runtime_canSpin", "internal/sync.runtime_doSpin", "internal/sync.throw", "internal/sync.runtime_nanotime", "internal/sync.runtime_SemacquireMutex", "sync/atomic.AddInt32", "(*internal/sync.Mutex).Unlock", "internal/race.ReleaseMerge", "(*internal/sync.Mutex).unlockSlow", "internal/sync.fatal", "internal/sync.runtime_Semrelease"], apart := false }
def LawS4498CScriptSaid : Prop := lawS4498CScriptRow.holds Yba.pinned (OpenSpec.ofChange lawS4498CScriptSpec)

/-- ITS FALSE NEIGHBOUR: 'it returns false'. Refute it at one input. -/
def lawS4498CScriptWrong : ChangeSpec := { name := "lawS4498CScript", fn := fun _ => fun
  | [d] => { results := [.lit (.bool false)], args := [d] }
  | _ => none }
def LawS4498CScriptWrongFalsely : Prop := lawS4498CScriptRow.holds Yba.pinned (OpenSpec.ofChange lawS4498CScriptWrong)

end Rows
end Go.Proofs.Ybulkcoda
