/-
  No cell of these rows narrows 'for every input' (looked for: loops, veiled, ifaces, maps, wideKeys, modest, calm, conditions, laid).
  DERIVED. THE GIVEN ROWS OF THIS SEAT. 5 by the template 'for every input the law returns true; each argument reads behind the call as it read before'; 0 by the template 'total and deterministic' (their statements: YbulkbihyTotals.lean).
  GIVEN WITH THE SEED: the statements are not yours to turn. If you find one false, say at which input.
  Laid BY PROGRAM, IN A SANDBOX (cutbox-rows.mjs): the forced cells as the released guide's own fill.sh prints them over the translation ad6d7c6a708b5f86… (all of the seat's roots in one cut). By AI agents, Wed Nov 11 2026. No macro, syntax, notation, axiom, sorry.
-/
import Derived.Test.YbulkbihyChecked
import GoSem.Claim
import GoSem.ClaimJoined
import GoSem.ClaimMapViews
import Derived.JoinedTies
import Derived.KernelRfl
namespace Go.Proofs.Ybulkbihy
/- THE CELL 'sum', in the pinned program and in every row, IS THE sha256 OF THE DUMP (.gsa) THAT YbulkbihyProg.lean LOADS. Nothing in Lean hashes anything: it is a label: what it is worth is what the hold of that sum in a sandbox is worth. -/
noncomputable def Yba.pinned : Pinned := { name := "ybulkbihy", sum := "ad6d7c6a708b5f86fff9d3006c646fb01e40d9f6c91d15097df90ca58d80fb72", checked := Yba.checked }
namespace Rows
def none {H : Type} : Left H := { results := [], args := [] }

/-- 'tidy-pool.LawS2962AEmptyEnds': WHATEVER THE INPUT: true; the input reads as it did. -/
def lawS2962AEmptyEndsSpec : ChangeSpec := { name := "lawS2962AEmptyEnds", fn := fun _ => fun
  | [d1, d2, d3, d4, d5, d6] => { results := [.lit (.bool true)], args := [d1, d2, d3, d4, d5, d6] }
  | _ => none }
def lawS2962AEmptyEndsRow : OpenClaim := { program := "ybulkbihy", sum := "ad6d7c6a708b5f86fff9d3006c646fb01e40d9f6c91d15097df90ca58d80fb72", func := "example.com/tidy-pool/tidy-pool.LawS2962AEmptyEnds", spec := "lawS2962AEmptyEnds", inPlace := ["(*internal/sync.Mutex).Lock", "internal/race.Disable", "sync/atomic.CompareAndSwapInt32", "internal/race.Enable", "internal/race.Acquire", "(*internal/sync.Mutex).lockSlow", "internal/sync.runtime_canSpin", "internal/sync.runtime_doSpin", "internal/sync.throw", "internal/sync.runtime_nanotime", "internal/sync.runtime_SemacquireMutex", "sync/atomic.AddInt32", "(*internal/sync.Mutex).Unlock", "internal/race.ReleaseMerge", "(*internal/sync.Mutex).unlockSlow", "internal/sync.fatal", "internal/sync.runtime_Semrelease", "sync/atomic.LoadInt64", "sync/atomic.AddInt64", "(*sync.Cond).Signal", "(*sync.copyChecker).check", "sync.runtime_notifyListNotifyOne", "runtime.Stack", "(*internal/sync.Mutex).TryLock", "sync/atomic.LoadUint32"], unfollowed := true, recurses := true, apart := false }
def LawS2962AEmptyEndsSaid : Prop := lawS2962AEmptyEndsRow.holds Yba.pinned (OpenSpec.ofChange lawS2962AEmptyEndsSpec)

/-- ITS FALSE NEIGHBOUR: 'it returns false'. Refute it at one input. -/
def lawS2962AEmptyEndsWrong : ChangeSpec := { name := "lawS2962AEmptyEnds", fn := fun _ => fun
  | [d1, d2, d3, d4, d5, d6] => { results := [.lit (.bool false)], args := [d1, d2, d3, d4, d5, d6] }
  | _ => none }
def LawS2962AEmptyEndsWrongFalsely : Prop := lawS2962AEmptyEndsRow.holds Yba.pinned (OpenSpec.ofChange lawS2962AEmptyEndsWrong)

/-- 'tidy-pool.LawS2962AProgressResets': WHATEVER THE INPUT: true; the input reads as it did. -/
def lawS2962AProgressResetsSpec : ChangeSpec := { name := "lawS2962AProgressResets", fn := fun _ => fun
  | [d1, d2, d3, d4, d5, d6, d7, d8, d9] => { results := [.lit (.bool true)], args := [d1, d2, d3, d4, d5, d6, d7, d8, d9] }
  | _ => none }
def lawS2962AProgressResetsRow : OpenClaim := { program := "ybulkbihy", sum := "ad6d7c6a708b5f86fff9d3006c646fb01e40d9f6c91d15097df90ca58d80fb72", func := "example.com/tidy-pool/tidy-pool.LawS2962AProgressResets", spec := "lawS2962AProgressResets", inPlace := ["sync/atomic.StoreInt64", "(*internal/sync.Mutex).Lock", "internal/race.Disable", "sync/atomic.CompareAndSwapInt32", "internal/race.Enable", "internal/race.Acquire", "(*internal/sync.Mutex).lockSlow", "internal/sync.runtime_canSpin", "internal/sync.runtime_doSpin", "internal/sync.throw", "internal/sync.runtime_nanotime", "internal/sync.runtime_SemacquireMutex", "sync/atomic.AddInt32", "(*internal/sync.Mutex).Unlock", "internal/race.ReleaseMerge", "(*internal/sync.Mutex).unlockSlow", "internal/sync.fatal", "internal/sync.runtime_Semrelease", "sync/atomic.LoadInt64", "sync/atomic.AddInt64", "(*sync.Cond).Signal", "(*sync.copyChecker).check", "sync.runtime_notifyListNotifyOne", "runtime.Stack", "(*internal/sync.Mutex).TryLock", "sync/atomic.LoadUint32"], unfollowed := true, recurses := true, apart := false }
def LawS2962AProgressResetsSaid : Prop := lawS2962AProgressResetsRow.holds Yba.pinned (OpenSpec.ofChange lawS2962AProgressResetsSpec)

/-- ITS FALSE NEIGHBOUR: 'it returns false'. Refute it at one input. -/
def lawS2962AProgressResetsWrong : ChangeSpec := { name := "lawS2962AProgressResets", fn := fun _ => fun
  | [d1, d2, d3, d4, d5, d6, d7, d8, d9] => { results := [.lit (.bool false)], args := [d1, d2, d3, d4, d5, d6, d7, d8, d9] }
  | _ => none }
def LawS2962AProgressResetsWrongFalsely : Prop := lawS2962AProgressResetsRow.holds Yba.pinned (OpenSpec.ofChange lawS2962AProgressResetsWrong)

/-- 'tidy-pool.LawS2962ANoRoom': WHATEVER THE INPUT: true; the input reads as it did. -/
def lawS2962ANoRoomSpec : ChangeSpec := { name := "lawS2962ANoRoom", fn := fun _ => fun
  | [d1, d2, d3, d4, d5, d6, d7] => { results := [.lit (.bool true)], args := [d1, d2, d3, d4, d5, d6, d7] }
  | _ => none }
def lawS2962ANoRoomRow : OpenClaim := { program := "ybulkbihy", sum := "ad6d7c6a708b5f86fff9d3006c646fb01e40d9f6c91d15097df90ca58d80fb72", func := "example.com/tidy-pool/tidy-pool.LawS2962ANoRoom", spec := "lawS2962ANoRoom", inPlace := ["sync/atomic.StoreInt64", "(*internal/sync.Mutex).Lock", "internal/race.Disable", "sync/atomic.CompareAndSwapInt32", "internal/race.Enable", "internal/race.Acquire", "(*internal/sync.Mutex).lockSlow", "internal/sync.runtime_canSpin", "internal/sync.runtime_doSpin", "internal/sync.throw", "internal/sync.runtime_nanotime", "internal/sync.runtime_SemacquireMutex", "sync/atomic.AddInt32", "(*internal/sync.Mutex).Unlock", "internal/race.ReleaseMerge", "(*internal/sync.Mutex).unlockSlow", "internal/sync.fatal", "internal/sync.runtime_Semrelease", "sync/atomic.LoadInt64", "sync/atomic.AddInt64", "(*sync.Cond).Signal", "(*sync.copyChecker).check", "sync.runtime_notifyListNotifyOne", "runtime.Stack", "(*internal/sync.Mutex).TryLock", "sync/atomic.LoadUint32"], unfollowed := true, recurses := true, apart := false }
def LawS2962ANoRoomSaid : Prop := lawS2962ANoRoomRow.holds Yba.pinned (OpenSpec.ofChange lawS2962ANoRoomSpec)

/-- ITS FALSE NEIGHBOUR: 'it returns false'. Refute it at one input. -/
def lawS2962ANoRoomWrong : ChangeSpec := { name := "lawS2962ANoRoom", fn := fun _ => fun
  | [d1, d2, d3, d4, d5, d6, d7] => { results := [.lit (.bool false)], args := [d1, d2, d3, d4, d5, d6, d7] }
  | _ => none }
def LawS2962ANoRoomWrongFalsely : Prop := lawS2962ANoRoomRow.holds Yba.pinned (OpenSpec.ofChange lawS2962ANoRoomWrong)

/-- 'tidy-pool.LawS2962BStep': WHATEVER THE INPUT: true; the input reads as it did. -/
def lawS2962BStepSpec : ChangeSpec := { name := "lawS2962BStep", fn := fun _ => fun
  | [d1, d2, d3, d4, d5, d6, d7] => { results := [.lit (.bool true)], args := [d1, d2, d3, d4, d5, d6, d7] }
  | _ => none }
def lawS2962BStepRow : OpenClaim := { program := "ybulkbihy", sum := "ad6d7c6a708b5f86fff9d3006c646fb01e40d9f6c91d15097df90ca58d80fb72", func := "example.com/tidy-pool/tidy-pool.LawS2962BStep", spec := "lawS2962BStep", inPlace := ["sync/atomic.StoreInt64", "sync/atomic.LoadInt64", "sync/atomic.AddInt64", "(*sync.Cond).Signal", "(*sync.copyChecker).check", "sync.runtime_notifyListNotifyOne"], apart := false }
def LawS2962BStepSaid : Prop := lawS2962BStepRow.holds Yba.pinned (OpenSpec.ofChange lawS2962BStepSpec)

/-- ITS FALSE NEIGHBOUR: 'it returns false'. Refute it at one input. -/
def lawS2962BStepWrong : ChangeSpec := { name := "lawS2962BStep", fn := fun _ => fun
  | [d1, d2, d3, d4, d5, d6, d7] => { results := [.lit (.bool false)], args := [d1, d2, d3, d4, d5, d6, d7] }
  | _ => none }
def LawS2962BStepWrongFalsely : Prop := lawS2962BStepRow.holds Yba.pinned (OpenSpec.ofChange lawS2962BStepWrong)

/-- 'tidy-pool.LawS2962BDrain': WHATEVER THE INPUT: true; the input reads as it did. -/
def lawS2962BDrainSpec : ChangeSpec := { name := "lawS2962BDrain", fn := fun _ => fun
  | [d1, d2] => { results := [.lit (.bool true)], args := [d1, d2] }
  | _ => none }
def lawS2962BDrainRow : OpenClaim := { program := "ybulkbihy", sum := "ad6d7c6a708b5f86fff9d3006c646fb01e40d9f6c91d15097df90ca58d80fb72", func := "example.com/tidy-pool/tidy-pool.LawS2962BDrain", spec := "lawS2962BDrain", inPlace := ["sync/atomic.StoreInt64", "sync/atomic.LoadInt64", "sync/atomic.AddInt64", "(*sync.Cond).Signal", "(*sync.copyChecker).check", "sync.runtime_notifyListNotifyOne"], apart := false }
def LawS2962BDrainSaid : Prop := lawS2962BDrainRow.holds Yba.pinned (OpenSpec.ofChange lawS2962BDrainSpec)

/-- ITS FALSE NEIGHBOUR: 'it returns false'. Refute it at one input. -/
def lawS2962BDrainWrong : ChangeSpec := { name := "lawS2962BDrain", fn := fun _ => fun
  | [d1, d2] => { results := [.lit (.bool false)], args := [d1, d2] }
  | _ => none }
def LawS2962BDrainWrongFalsely : Prop := lawS2962BDrainRow.holds Yba.pinned (OpenSpec.ofChange lawS2962BDrainWrong)

end Rows
end Go.Proofs.Ybulkbihy
