/-
  No cell of these rows narrows 'for every input' (looked for: loops, veiled, ifaces, maps, wideKeys, modest, calm, conditions, laid).
  DERIVED. THE GIVEN ROWS OF THIS SEAT. 2 by the template 'for every input the law returns true; each argument reads behind the call as it read before'; 0 by the template 'total and deterministic' (their statements: YbulkbpycTotals.lean).
  GIVEN WITH THE SEED: the statements are not yours to turn. If you find one false, say at which input.
  Laid BY PROGRAM, IN A SANDBOX (cutbox-rows.mjs): the forced cells as the released guide's own fill.sh prints them over the translation 11ed57acf556faea… (all of the seat's roots in one cut). By AI agents, Wed Nov 11 2026. No macro, syntax, notation, axiom, sorry.
-/
import Derived.Test.YbulkbpycChecked
import GoSem.Claim
import GoSem.ClaimJoined
import GoSem.ClaimMapViews
import Derived.JoinedTies
import Derived.KernelRfl
namespace Go.Proofs.Ybulkbpyc
/- THE CELL 'sum', in the pinned program and in every row, IS THE sha256 OF THE DUMP (.gsa) THAT YbulkbpycProg.lean LOADS. Nothing in Lean hashes anything: it is a label: what it is worth is what the hold of that sum in a sandbox is worth. -/
noncomputable def Yba.pinned : Pinned := { name := "ybulkbpyc", sum := "11ed57acf556faeaa21526e8b0dd74b3380836c55524bfb1d65f0479e8604d9a", checked := Yba.checked }
namespace Rows
def none {H : Type} : Left H := { results := [], args := [] }

/-- 'downwind.LawS3330CFreshLock': WHATEVER THE INPUT: true; the input reads as it did. -/
def lawS3330CFreshLockSpec : ChangeSpec := { name := "lawS3330CFreshLock", fn := fun _ => fun
  | [d] => { results := [.lit (.bool true)], args := [d] }
  | _ => none }
def lawS3330CFreshLockRow : OpenClaim := { program := "ybulkbpyc", sum := "11ed57acf556faeaa21526e8b0dd74b3380836c55524bfb1d65f0479e8604d9a", func := "example.com/downwind/downwind.LawS3330CFreshLock", spec := "lawS3330CFreshLock", inPlace := ["(*internal/sync.Mutex).TryLock", "internal/race.Disable", "internal/race.Enable", "sync/atomic.CompareAndSwapInt32", "internal/race.Acquire", "(*internal/sync.Mutex).Lock", "(*internal/sync.Mutex).lockSlow", "internal/sync.runtime_canSpin", "internal/sync.runtime_doSpin", "internal/sync.throw", "internal/sync.runtime_nanotime", "internal/sync.runtime_SemacquireMutex", "sync/atomic.AddInt32", "(*internal/sync.Mutex).Unlock", "internal/race.ReleaseMerge", "(*internal/sync.Mutex).unlockSlow", "internal/sync.fatal", "internal/sync.runtime_Semrelease"], apart := false }
def LawS3330CFreshLockSaid : Prop := lawS3330CFreshLockRow.holds Yba.pinned (OpenSpec.ofChange lawS3330CFreshLockSpec)

/-- ITS FALSE NEIGHBOUR: 'it returns false'. Refute it at one input. -/
def lawS3330CFreshLockWrong : ChangeSpec := { name := "lawS3330CFreshLock", fn := fun _ => fun
  | [d] => { results := [.lit (.bool false)], args := [d] }
  | _ => none }
def LawS3330CFreshLockWrongFalsely : Prop := lawS3330CFreshLockRow.holds Yba.pinned (OpenSpec.ofChange lawS3330CFreshLockWrong)

/-- 'downwind.LawS3330COnlyThatOne': WHATEVER THE INPUT: true; the input reads as it did. -/
def lawS3330COnlyThatOneSpec : ChangeSpec := { name := "lawS3330COnlyThatOne", fn := fun _ => fun
  | [d] => { results := [.lit (.bool true)], args := [d] }
  | _ => none }
def lawS3330COnlyThatOneRow : OpenClaim := { program := "ybulkbpyc", sum := "11ed57acf556faeaa21526e8b0dd74b3380836c55524bfb1d65f0479e8604d9a", func := "example.com/downwind/downwind.LawS3330COnlyThatOne", spec := "lawS3330COnlyThatOne", inPlace := ["(*internal/sync.Mutex).TryLock", "internal/race.Disable", "internal/race.Enable", "sync/atomic.CompareAndSwapInt32", "internal/race.Acquire", "(*internal/sync.Mutex).Lock", "(*internal/sync.Mutex).lockSlow", "internal/sync.runtime_canSpin", "internal/sync.runtime_doSpin", "internal/sync.throw", "internal/sync.runtime_nanotime", "internal/sync.runtime_SemacquireMutex", "sync/atomic.AddInt32", "(*internal/sync.Mutex).Unlock", "internal/race.ReleaseMerge", "(*internal/sync.Mutex).unlockSlow", "internal/sync.fatal", "internal/sync.runtime_Semrelease"], apart := false }
def LawS3330COnlyThatOneSaid : Prop := lawS3330COnlyThatOneRow.holds Yba.pinned (OpenSpec.ofChange lawS3330COnlyThatOneSpec)

/-- ITS FALSE NEIGHBOUR: 'it returns false'. Refute it at one input. -/
def lawS3330COnlyThatOneWrong : ChangeSpec := { name := "lawS3330COnlyThatOne", fn := fun _ => fun
  | [d] => { results := [.lit (.bool false)], args := [d] }
  | _ => none }
def LawS3330COnlyThatOneWrongFalsely : Prop := lawS3330COnlyThatOneRow.holds Yba.pinned (OpenSpec.ofChange lawS3330COnlyThatOneWrong)

end Rows
end Go.Proofs.Ybulkbpyc
