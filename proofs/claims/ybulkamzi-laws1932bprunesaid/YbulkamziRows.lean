/-
  No cell of these rows narrows 'for every input' (looked for: loops, veiled, ifaces, maps, wideKeys, modest, calm, conditions, laid).
  DERIVED. THE GIVEN ROWS OF THIS SEAT. 3 by the template 'for every input the law returns true; each argument reads behind the call as it read before'; 0 by the template 'total and deterministic' (their statements: YbulkamziTotals.lean).
  GIVEN WITH THE SEED: the statements are not yours to turn. If you find one false, say at which input.
  Laid BY PROGRAM, IN A SANDBOX (cutbox-rows.mjs): the forced cells as the released guide's own fill.sh prints them over the translation 131b0904121812a1… (all of the seat's roots in one cut). By AI agents, Wed Nov 11 2026. No macro, syntax, notation, axiom, sorry.
-/
import Derived.Test.YbulkamziChecked
import GoSem.Claim
import GoSem.ClaimJoined
import GoSem.ClaimMapViews
import Derived.JoinedTies
import Derived.KernelRfl
namespace Go.Proofs.Ybulkamzi
/- THE CELL 'sum', in the pinned program and in every row, IS THE sha256 OF THE DUMP (.gsa) THAT YbulkamziProg.lean LOADS. Nothing in Lean hashes anything: it is a label: what it is worth is what the hold of that sum in a sandbox is worth. -/
noncomputable def Yba.pinned : Pinned := { name := "ybulkamzi", sum := "131b0904121812a167d6039beba59af9b6bb7759ba9ae416ea505bf90dcf39d0", checked := Yba.checked }
namespace Rows
def none {H : Type} : Left H := { results := [], args := [] }

/-- 'waitgraph.LawS1932ARetain': WHATEVER THE INPUT: true; the input reads as it did. -/
def lawS1932ARetainSpec : ChangeSpec := { name := "lawS1932ARetain", fn := fun _ => fun
  | [d1, d2, d3, d4] => { results := [.lit (.bool true)], args := [d1, d2, d3, d4] }
  | _ => none }
def lawS1932ARetainRow : OpenClaim := { program := "ybulkamzi", sum := "131b0904121812a167d6039beba59af9b6bb7759ba9ae416ea505bf90dcf39d0", func := "example.com/waitgraph/waitgraph.LawS1932ARetain", spec := "lawS1932ARetain", unfollowed := true, recurses := true, plainKeys := false, apart := false }
def LawS1932ARetainSaid : Prop := lawS1932ARetainRow.holds Yba.pinned (OpenSpec.ofChange lawS1932ARetainSpec)

/-- ITS FALSE NEIGHBOUR: 'it returns false'. Refute it at one input. -/
def lawS1932ARetainWrong : ChangeSpec := { name := "lawS1932ARetain", fn := fun _ => fun
  | [d1, d2, d3, d4] => { results := [.lit (.bool false)], args := [d1, d2, d3, d4] }
  | _ => none }
def LawS1932ARetainWrongFalsely : Prop := lawS1932ARetainRow.holds Yba.pinned (OpenSpec.ofChange lawS1932ARetainWrong)

/-- 'waitgraph.LawS1932BPrune': WHATEVER THE INPUT: true; the input reads as it did. -/
def lawS1932BPruneSpec : ChangeSpec := { name := "lawS1932BPrune", fn := fun _ => fun
  | [d1, d2] => { results := [.lit (.bool true)], args := [d1, d2] }
  | _ => none }
def lawS1932BPruneRow : OpenClaim := { program := "ybulkamzi", sum := "131b0904121812a167d6039beba59af9b6bb7759ba9ae416ea505bf90dcf39d0", func := "example.com/waitgraph/waitgraph.LawS1932BPrune", spec := "lawS1932BPrune", inPlace := ["sync/atomic.StoreUint32", "(*internal/sync.Mutex).Lock", "internal/race.Disable", "sync/atomic.CompareAndSwapInt32", "internal/race.Enable", "internal/race.Acquire", "(*internal/sync.Mutex).lockSlow", "internal/sync.runtime_canSpin", "internal/sync.runtime_doSpin", "internal/sync.throw", "internal/sync.runtime_nanotime", "internal/sync.runtime_SemacquireMutex", "sync/atomic.AddInt32", "sync/atomic.LoadPointer", "sync/atomic.StorePointer", "(*internal/sync.Mutex).TryLock", "sync/atomic.LoadUint32", "(*internal/sync.Mutex).Unlock", "internal/race.ReleaseMerge", "(*internal/sync.Mutex).unlockSlow", "internal/sync.fatal", "internal/sync.runtime_Semrelease", "sync/atomic.AddInt64", "sync/atomic.LoadInt64"], plainKeys := false, apart := false }
def LawS1932BPruneSaid : Prop := lawS1932BPruneRow.holds Yba.pinned (OpenSpec.ofChange lawS1932BPruneSpec)

/-- ITS FALSE NEIGHBOUR: 'it returns false'. Refute it at one input. -/
def lawS1932BPruneWrong : ChangeSpec := { name := "lawS1932BPrune", fn := fun _ => fun
  | [d1, d2] => { results := [.lit (.bool false)], args := [d1, d2] }
  | _ => none }
def LawS1932BPruneWrongFalsely : Prop := lawS1932BPruneRow.holds Yba.pinned (OpenSpec.ofChange lawS1932BPruneWrong)

/-- 'waitgraph.LawS1932CEmptied': WHATEVER THE INPUT: true; the input reads as it did. -/
def lawS1932CEmptiedSpec : ChangeSpec := { name := "lawS1932CEmptied", fn := fun _ => fun
  | [d1, d2, d3, d4, d5] => { results := [.lit (.bool true)], args := [d1, d2, d3, d4, d5] }
  | _ => none }
def lawS1932CEmptiedRow : OpenClaim := { program := "ybulkamzi", sum := "131b0904121812a167d6039beba59af9b6bb7759ba9ae416ea505bf90dcf39d0", func := "example.com/waitgraph/waitgraph.LawS1932CEmptied", spec := "lawS1932CEmptied", inPlace := ["sync/atomic.StorePointer", "sync/atomic.LoadPointer", "sync/atomic.OrUint32", "sync/atomic.AndUint32", "sync/atomic.LoadUint32"], plainKeys := false, apart := false }
def LawS1932CEmptiedSaid : Prop := lawS1932CEmptiedRow.holds Yba.pinned (OpenSpec.ofChange lawS1932CEmptiedSpec)

/-- ITS FALSE NEIGHBOUR: 'it returns false'. Refute it at one input. -/
def lawS1932CEmptiedWrong : ChangeSpec := { name := "lawS1932CEmptied", fn := fun _ => fun
  | [d1, d2, d3, d4, d5] => { results := [.lit (.bool false)], args := [d1, d2, d3, d4, d5] }
  | _ => none }
def LawS1932CEmptiedWrongFalsely : Prop := lawS1932CEmptiedRow.holds Yba.pinned (OpenSpec.ofChange lawS1932CEmptiedWrong)

end Rows
end Go.Proofs.Ybulkamzi
