/-
  No cell of these rows narrows 'for every input' (looked for: loops, veiled, ifaces, maps, wideKeys, modest, calm, conditions, laid).
  DERIVED. THE GIVEN ROWS OF THIS SEAT. 3 by the template 'for every input the law returns true; each argument reads behind the call as it read before'; 0 by the template 'total and deterministic' (their statements: YbulkmmcTotals.lean).
  GIVEN WITH THE SEED: the statements are not yours to turn. If you find one false, say at which input.
  Laid BY PROGRAM, IN A SANDBOX (cutbox-rows.mjs): the forced cells as the released guide's own fill.sh prints them over the translation 0f53db81f58c63bd… (all of the seat's roots in one cut). By AI agents, Wed Nov 11 2026. No macro, syntax, notation, axiom, sorry.
-/
import Derived.Test.YbulkmmcChecked
import GoSem.Claim
import GoSem.ClaimJoined
import GoSem.ClaimMapViews
import Derived.JoinedTies
import Derived.KernelRfl
namespace Go.Proofs.Ybulkmmc
/- THE CELL 'sum', in the pinned program and in every row, IS THE sha256 OF THE DUMP (.gsa) THAT YbulkmmcProg.lean LOADS. Nothing in Lean hashes anything: it is a label: what it is worth is what the hold of that sum in a sandbox is worth. -/
noncomputable def Yba.pinned : Pinned := { name := "ybulkmmc", sum := "0f53db81f58c63bd3670ecf0e66a99d78b7374fb344f37d5bcd7bccab7f18d0a", checked := Yba.checked }
namespace Rows
def none {H : Type} : Left H := { results := [], args := [] }

/-- 'inqueue.LawS0652AExact': WHATEVER THE INPUT: true; the input reads as it did. -/
def lawS0652AExactSpec : ChangeSpec := { name := "lawS0652AExact", fn := fun _ => fun
  | [d1, d2, d3, d4, d5] => { results := [.lit (.bool true)], args := [d1, d2, d3, d4, d5] }
  | _ => none }
def lawS0652AExactRow : OpenClaim := { program := "ybulkmmc", sum := "0f53db81f58c63bd3670ecf0e66a99d78b7374fb344f37d5bcd7bccab7f18d0a", func := "example.com/inqueue/inqueue.LawS0652AExact", spec := "lawS0652AExact", inPlace := ["sync/atomic.StoreInt64", "(*internal/sync.Mutex).Lock", "internal/race.Disable", "sync/atomic.CompareAndSwapInt32", "internal/race.Enable", "internal/race.Acquire", "(*internal/sync.Mutex).lockSlow", "internal/sync.runtime_canSpin", "internal/sync.runtime_doSpin", "internal/sync.throw", "internal/sync.runtime_nanotime", "internal/sync.runtime_SemacquireMutex", "sync/atomic.AddInt32", "(*internal/sync.Mutex).Unlock", "internal/race.ReleaseMerge", "(*internal/sync.Mutex).unlockSlow", "internal/sync.fatal", "internal/sync.runtime_Semrelease", "sync/atomic.LoadInt64"], apart := false }
def LawS0652AExactSaid : Prop := lawS0652AExactRow.holds Yba.pinned (OpenSpec.ofChange lawS0652AExactSpec)

/-- ITS FALSE NEIGHBOUR: 'it returns false'. Refute it at one input. -/
def lawS0652AExactWrong : ChangeSpec := { name := "lawS0652AExact", fn := fun _ => fun
  | [d1, d2, d3, d4, d5] => { results := [.lit (.bool false)], args := [d1, d2, d3, d4, d5] }
  | _ => none }
def LawS0652AExactWrongFalsely : Prop := lawS0652AExactRow.holds Yba.pinned (OpenSpec.ofChange lawS0652AExactWrong)

/-- 'inqueue.LawS0652APaused': WHATEVER THE INPUT: true; the input reads as it did. -/
def lawS0652APausedSpec : ChangeSpec := { name := "lawS0652APaused", fn := fun _ => fun
  | [d1, d2, d3, d4] => { results := [.lit (.bool true)], args := [d1, d2, d3, d4] }
  | _ => none }
def lawS0652APausedRow : OpenClaim := { program := "ybulkmmc", sum := "0f53db81f58c63bd3670ecf0e66a99d78b7374fb344f37d5bcd7bccab7f18d0a", func := "example.com/inqueue/inqueue.LawS0652APaused", spec := "lawS0652APaused", inPlace := ["sync/atomic.StoreInt64", "(*internal/sync.Mutex).Lock", "internal/race.Disable", "sync/atomic.CompareAndSwapInt32", "internal/race.Enable", "internal/race.Acquire", "(*internal/sync.Mutex).lockSlow", "internal/sync.runtime_canSpin", "internal/sync.runtime_doSpin", "internal/sync.throw", "internal/sync.runtime_nanotime", "internal/sync.runtime_SemacquireMutex", "sync/atomic.AddInt32", "(*internal/sync.Mutex).Unlock", "internal/race.ReleaseMerge", "(*internal/sync.Mutex).unlockSlow", "internal/sync.fatal", "internal/sync.runtime_Semrelease", "sync/atomic.LoadInt64"], apart := false }
def LawS0652APausedSaid : Prop := lawS0652APausedRow.holds Yba.pinned (OpenSpec.ofChange lawS0652APausedSpec)

/-- ITS FALSE NEIGHBOUR: 'it returns false'. Refute it at one input. -/
def lawS0652APausedWrong : ChangeSpec := { name := "lawS0652APaused", fn := fun _ => fun
  | [d1, d2, d3, d4] => { results := [.lit (.bool false)], args := [d1, d2, d3, d4] }
  | _ => none }
def LawS0652APausedWrongFalsely : Prop := lawS0652APausedRow.holds Yba.pinned (OpenSpec.ofChange lawS0652APausedWrong)

/-- 'inqueue.LawS0652BMin': WHATEVER THE INPUT: true; the input reads as it did. -/
def lawS0652BMinSpec : ChangeSpec := { name := "lawS0652BMin", fn := fun _ => fun
  | [d1, d2, d3] => { results := [.lit (.bool true)], args := [d1, d2, d3] }
  | _ => none }
def lawS0652BMinRow : OpenClaim := { program := "ybulkmmc", sum := "0f53db81f58c63bd3670ecf0e66a99d78b7374fb344f37d5bcd7bccab7f18d0a", func := "example.com/inqueue/inqueue.LawS0652BMin", spec := "lawS0652BMin", inPlace := ["sync/atomic.StoreInt64", "sync/atomic.LoadInt64"], apart := false }
def LawS0652BMinSaid : Prop := lawS0652BMinRow.holds Yba.pinned (OpenSpec.ofChange lawS0652BMinSpec)

/-- ITS FALSE NEIGHBOUR: 'it returns false'. Refute it at one input. -/
def lawS0652BMinWrong : ChangeSpec := { name := "lawS0652BMin", fn := fun _ => fun
  | [d1, d2, d3] => { results := [.lit (.bool false)], args := [d1, d2, d3] }
  | _ => none }
def LawS0652BMinWrongFalsely : Prop := lawS0652BMinRow.holds Yba.pinned (OpenSpec.ofChange lawS0652BMinWrong)

end Rows
end Go.Proofs.Ybulkmmc
