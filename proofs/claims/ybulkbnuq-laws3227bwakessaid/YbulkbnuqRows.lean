/-
  No cell of these rows narrows 'for every input' (looked for: loops, veiled, ifaces, maps, wideKeys, modest, calm, conditions, laid).
  DERIVED. THE GIVEN ROWS OF THIS SEAT. 2 by the template 'for every input the law returns true; each argument reads behind the call as it read before'; 0 by the template 'total and deterministic' (their statements: YbulkbnuqTotals.lean).
  GIVEN WITH THE SEED: the statements are not yours to turn. If you find one false, say at which input.
  Laid BY PROGRAM, IN A SANDBOX (cutbox-rows.mjs): the forced cells as the released guide's own fill.sh prints them over the translation 8ac40ad2f77c7982… (all of the seat's roots in one cut). By AI agents, Wed Nov 11 2026. No macro, syntax, notation, axiom, sorry.
-/
import Derived.Test.YbulkbnuqChecked
import GoSem.Claim
import GoSem.ClaimJoined
import GoSem.ClaimMapViews
import Derived.JoinedTies
import Derived.KernelRfl
namespace Go.Proofs.Ybulkbnuq
/- THE CELL 'sum', in the pinned program and in every row, IS THE sha256 OF THE DUMP (.gsa) THAT YbulkbnuqProg.lean LOADS. Nothing in Lean hashes anything: it is a label: what it is worth is what the hold of that sum in a sandbox is worth. -/
noncomputable def Yba.pinned : Pinned := { name := "ybulkbnuq", sum := "8ac40ad2f77c798238d4c0fc45bea15fdb48839b7b6f69250ab8dfa99fd1d490", checked := Yba.checked }
namespace Rows
def none {H : Type} : Left H := { results := [], args := [] }

/-- 'wal.LawS3227BWakes': WHATEVER THE INPUT: true; the input reads as it did. -/
def lawS3227BWakesSpec : ChangeSpec := { name := "lawS3227BWakes", fn := fun _ => fun
  | [d1, d2, d3, d4, d5] => { results := [.lit (.bool true)], args := [d1, d2, d3, d4, d5] }
  | _ => none }
def lawS3227BWakesRow : OpenClaim := { program := "ybulkbnuq", sum := "8ac40ad2f77c798238d4c0fc45bea15fdb48839b7b6f69250ab8dfa99fd1d490", func := "example.com/serialine/serialine/internal/wal.LawS3227BWakes", spec := "lawS3227BWakes", inPlace := ["(*internal/sync.Mutex).Lock", "internal/race.Disable", "sync/atomic.CompareAndSwapInt32", "internal/race.Enable", "internal/race.Acquire", "(*internal/sync.Mutex).lockSlow", "internal/sync.runtime_canSpin", "internal/sync.runtime_doSpin", "internal/sync.throw", "internal/sync.runtime_nanotime", "internal/sync.runtime_SemacquireMutex", "sync/atomic.AddInt32", "(*internal/sync.Mutex).Unlock", "internal/race.ReleaseMerge", "(*internal/sync.Mutex).unlockSlow", "internal/sync.fatal", "internal/sync.runtime_Semrelease", "(*internal/sync.Mutex).TryLock"], apart := false }
def LawS3227BWakesSaid : Prop := lawS3227BWakesRow.holds Yba.pinned (OpenSpec.ofChange lawS3227BWakesSpec)

/-- ITS FALSE NEIGHBOUR: 'it returns false'. Refute it at one input. -/
def lawS3227BWakesWrong : ChangeSpec := { name := "lawS3227BWakes", fn := fun _ => fun
  | [d1, d2, d3, d4, d5] => { results := [.lit (.bool false)], args := [d1, d2, d3, d4, d5] }
  | _ => none }
def LawS3227BWakesWrongFalsely : Prop := lawS3227BWakesRow.holds Yba.pinned (OpenSpec.ofChange lawS3227BWakesWrong)

/-- 'wal.LawS3227BNilChannel': WHATEVER THE INPUT: true; the input reads as it did. -/
def lawS3227BNilChannelSpec : ChangeSpec := { name := "lawS3227BNilChannel", fn := fun _ => fun
  | [d1, d2] => { results := [.lit (.bool true)], args := [d1, d2] }
  | _ => none }
def lawS3227BNilChannelRow : OpenClaim := { program := "ybulkbnuq", sum := "8ac40ad2f77c798238d4c0fc45bea15fdb48839b7b6f69250ab8dfa99fd1d490", func := "example.com/serialine/serialine/internal/wal.LawS3227BNilChannel", spec := "lawS3227BNilChannel", inPlace := ["(*internal/sync.Mutex).Lock", "internal/race.Disable", "sync/atomic.CompareAndSwapInt32", "internal/race.Enable", "internal/race.Acquire", "(*internal/sync.Mutex).lockSlow", "internal/sync.runtime_canSpin", "internal/sync.runtime_doSpin", "internal/sync.throw", "internal/sync.runtime_nanotime", "internal/sync.runtime_SemacquireMutex", "sync/atomic.AddInt32", "(*internal/sync.Mutex).Unlock", "internal/race.ReleaseMerge", "(*internal/sync.Mutex).unlockSlow", "internal/sync.fatal", "internal/sync.runtime_Semrelease", "(*internal/sync.Mutex).TryLock"], apart := false }
def LawS3227BNilChannelSaid : Prop := lawS3227BNilChannelRow.holds Yba.pinned (OpenSpec.ofChange lawS3227BNilChannelSpec)

/-- ITS FALSE NEIGHBOUR: 'it returns false'. Refute it at one input. -/
def lawS3227BNilChannelWrong : ChangeSpec := { name := "lawS3227BNilChannel", fn := fun _ => fun
  | [d1, d2] => { results := [.lit (.bool false)], args := [d1, d2] }
  | _ => none }
def LawS3227BNilChannelWrongFalsely : Prop := lawS3227BNilChannelRow.holds Yba.pinned (OpenSpec.ofChange lawS3227BNilChannelWrong)

end Rows
end Go.Proofs.Ybulkbnuq
