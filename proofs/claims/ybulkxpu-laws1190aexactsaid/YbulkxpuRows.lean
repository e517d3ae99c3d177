/-
  No cell of these rows narrows 'for every input' (looked for: loops, veiled, ifaces, maps, wideKeys, modest, calm, conditions, laid).
  DERIVED. THE GIVEN ROWS OF THIS SEAT. 3 by the template 'for every input the law returns true; each argument reads behind the call as it read before'; 0 by the template 'total and deterministic' (their statements: YbulkxpuTotals.lean).
  GIVEN WITH THE SEED: the statements are not yours to turn. If you find one false, say at which input.
  Laid BY PROGRAM, IN A SANDBOX (cutbox-rows.mjs): the forced cells as the released guide's own fill.sh prints them over the translation f03a9e0821efd535… (all of the seat's roots in one cut). By AI agents, Wed Nov 11 2026. No macro, syntax, notation, axiom, sorry.
-/
import Derived.Test.YbulkxpuChecked
import GoSem.Claim
import GoSem.ClaimJoined
import GoSem.ClaimMapViews
import Derived.JoinedTies
import Derived.KernelRfl
namespace Go.Proofs.Ybulkxpu
/- THE CELL 'sum', in the pinned program and in every row, IS THE sha256 OF THE DUMP (.gsa) THAT YbulkxpuProg.lean LOADS. Nothing in Lean hashes anything: it is a label: what it is worth is what the hold of that sum in a sandbox is worth. -/
noncomputable def Yba.pinned : Pinned := { name := "ybulkxpu", sum := "f03a9e0821efd535333a1e6bdf762f1deafc89f6da70303f880351e1864c2795", checked := Yba.checked }
namespace Rows
def none {H : Type} : Left H := { results := [], args := [] }

/-- 'tasks-over-threads.LawS1190AExact': WHATEVER THE INPUT: true; the input reads as it did. -/
def lawS1190AExactSpec : ChangeSpec := { name := "lawS1190AExact", fn := fun _ => fun
  | [d1, d2, d3] => { results := [.lit (.bool true)], args := [d1, d2, d3] }
  | _ => none }
def lawS1190AExactRow : OpenClaim := { program := "ybulkxpu", sum := "f03a9e0821efd535333a1e6bdf762f1deafc89f6da70303f880351e1864c2795", func := "example.com/tasks-over-threads/tasks-over-threads.LawS1190AExact", spec := "lawS1190AExact", inPlace := ["sync/atomic.StoreUint64", "sync/atomic.StoreUint32", "sync/atomic.LoadUint64", "sync/atomic.LoadUint32"], apart := false }
def LawS1190AExactSaid : Prop := lawS1190AExactRow.holds Yba.pinned (OpenSpec.ofChange lawS1190AExactSpec)

/-- ITS FALSE NEIGHBOUR: 'it returns false'. Refute it at one input. -/
def lawS1190AExactWrong : ChangeSpec := { name := "lawS1190AExact", fn := fun _ => fun
  | [d1, d2, d3] => { results := [.lit (.bool false)], args := [d1, d2, d3] }
  | _ => none }
def LawS1190AExactWrongFalsely : Prop := lawS1190AExactRow.holds Yba.pinned (OpenSpec.ofChange lawS1190AExactWrong)

/-- 'tasks-over-threads.LawS1190ALeaveUnlock': WHATEVER THE INPUT: true; the input reads as it did. -/
def lawS1190ALeaveUnlockSpec : ChangeSpec := { name := "lawS1190ALeaveUnlock", fn := fun _ => fun
  | [d1, d2, d3] => { results := [.lit (.bool true)], args := [d1, d2, d3] }
  | _ => none }
def lawS1190ALeaveUnlockRow : OpenClaim := { program := "ybulkxpu", sum := "f03a9e0821efd535333a1e6bdf762f1deafc89f6da70303f880351e1864c2795", func := "example.com/tasks-over-threads/tasks-over-threads.LawS1190ALeaveUnlock", spec := "lawS1190ALeaveUnlock", inPlace := ["sync/atomic.StoreUint64", "sync/atomic.StoreUint32", "sync/atomic.LoadUint64", "sync/atomic.LoadUint32", "sync/atomic.CompareAndSwapUint64"], apart := false }
def LawS1190ALeaveUnlockSaid : Prop := lawS1190ALeaveUnlockRow.holds Yba.pinned (OpenSpec.ofChange lawS1190ALeaveUnlockSpec)

/-- ITS FALSE NEIGHBOUR: 'it returns false'. Refute it at one input. -/
def lawS1190ALeaveUnlockWrong : ChangeSpec := { name := "lawS1190ALeaveUnlock", fn := fun _ => fun
  | [d1, d2, d3] => { results := [.lit (.bool false)], args := [d1, d2, d3] }
  | _ => none }
def LawS1190ALeaveUnlockWrongFalsely : Prop := lawS1190ALeaveUnlockRow.holds Yba.pinned (OpenSpec.ofChange lawS1190ALeaveUnlockWrong)

/-- 'tasks-over-threads.LawS1190CDrainedReturns': WHATEVER THE INPUT: true; the input reads as it did. -/
def lawS1190CDrainedReturnsSpec : ChangeSpec := { name := "lawS1190CDrainedReturns", fn := fun _ => fun
  | [d1, d2] => { results := [.lit (.bool true)], args := [d1, d2] }
  | _ => none }
def lawS1190CDrainedReturnsRow : OpenClaim := { program := "ybulkxpu", sum := "f03a9e0821efd535333a1e6bdf762f1deafc89f6da70303f880351e1864c2795", func := "example.com/tasks-over-threads/tasks-over-threads.LawS1190CDrainedReturns", spec := "lawS1190CDrainedReturns", inPlace := ["sync/atomic.StoreInt64", "(*internal/sync.Mutex).Lock", "internal/race.Disable", "sync/atomic.CompareAndSwapInt32", "internal/race.Enable", "internal/race.Acquire", "(*internal/sync.Mutex).lockSlow", "internal/sync.runtime_canSpin", "internal/sync.runtime_doSpin", "internal/sync.throw", "internal/sync.runtime_nanotime", "internal/sync.runtime_SemacquireMutex", "sync/atomic.AddInt32", "sync/atomic.LoadInt64", "(*sync.Cond).Wait", "(*sync.copyChecker).check", "sync.runtime_notifyListAdd", "internal/race.Read", "sync.runtime_notifyListWait", "(*internal/sync.Mutex).Unlock", "internal/race.ReleaseMerge", "(*internal/sync.Mutex).unlockSlow", "internal/sync.fatal", "internal/sync.runtime_Semrelease", "(*internal/sync.Mutex).TryLock"], unfollowed := true, recurses := true, apart := false }
def LawS1190CDrainedReturnsSaid : Prop := lawS1190CDrainedReturnsRow.holds Yba.pinned (OpenSpec.ofChange lawS1190CDrainedReturnsSpec)

/-- ITS FALSE NEIGHBOUR: 'it returns false'. Refute it at one input. -/
def lawS1190CDrainedReturnsWrong : ChangeSpec := { name := "lawS1190CDrainedReturns", fn := fun _ => fun
  | [d1, d2] => { results := [.lit (.bool false)], args := [d1, d2] }
  | _ => none }
def LawS1190CDrainedReturnsWrongFalsely : Prop := lawS1190CDrainedReturnsRow.holds Yba.pinned (OpenSpec.ofChange lawS1190CDrainedReturnsWrong)

end Rows
end Go.Proofs.Ybulkxpu
