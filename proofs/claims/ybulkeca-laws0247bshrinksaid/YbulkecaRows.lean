/-
  No cell of these rows narrows 'for every input' (looked for: loops, veiled, ifaces, maps, wideKeys, modest, calm, conditions, laid).
  DERIVED. THE GIVEN ROWS OF THIS SEAT. 2 by the template 'for every input the law returns true; each argument reads behind the call as it read before'; 0 by the template 'total and deterministic' (their statements: YbulkecaTotals.lean).
  GIVEN WITH THE SEED: the statements are not yours to turn. If you find one false, say at which input.
  Laid BY PROGRAM, IN A SANDBOX (cutbox-rows.mjs): the forced cells as the released guide's own fill.sh prints them over the translation 054105d79c653315… (all of the seat's roots in one cut). By AI agents, Wed Nov 11 2026. No macro, syntax, notation, axiom, sorry.
-/
import Derived.Test.YbulkecaChecked
import GoSem.Claim
import GoSem.ClaimJoined
import GoSem.ClaimMapViews
import Derived.JoinedTies
import Derived.KernelRfl
namespace Go.Proofs.Ybulkeca
/- THE CELL 'sum', in the pinned program and in every row, IS THE sha256 OF THE DUMP (.gsa) THAT YbulkecaProg.lean LOADS. Nothing in Lean hashes anything: it is a label: what it is worth is what the hold of that sum in a sandbox is worth. -/
noncomputable def Yba.pinned : Pinned := { name := "ybulkeca", sum := "054105d79c6533153eccf809cecb28a424d35895cb607a220f61096b27ef2a2d", checked := Yba.checked }
namespace Rows
def none {H : Type} : Left H := { results := [], args := [] }

/-- 'slim-sched.LawS0247BShrink': WHATEVER THE INPUT: true; the input reads as it did. -/
def lawS0247BShrinkSpec : ChangeSpec := { name := "lawS0247BShrink", fn := fun _ => fun
  | [d1, d2, d3] => { results := [.lit (.bool true)], args := [d1, d2, d3] }
  | _ => none }
def lawS0247BShrinkRow : OpenClaim := { program := "ybulkeca", sum := "054105d79c6533153eccf809cecb28a424d35895cb607a220f61096b27ef2a2d", func := "example.com/slim-sched/slim-sched.LawS0247BShrink", spec := "lawS0247BShrink", inPlace := ["sync/atomic.StoreInt64", "sync/atomic.LoadInt64", "(*internal/sync.Mutex).Lock", "internal/race.Disable", "sync/atomic.CompareAndSwapInt32", "internal/race.Enable", "internal/race.Acquire", "(*internal/sync.Mutex).lockSlow", "internal/sync.runtime_canSpin", "internal/sync.runtime_doSpin", "internal/sync.throw", "internal/sync.runtime_nanotime", "internal/sync.runtime_SemacquireMutex", "sync/atomic.AddInt32", "sync/atomic.AddInt64", "(*internal/sync.Mutex).Unlock", "internal/race.ReleaseMerge", "(*internal/sync.Mutex).unlockSlow", "internal/sync.fatal", "internal/sync.runtime_Semrelease"], apart := false }
def LawS0247BShrinkSaid : Prop := lawS0247BShrinkRow.holds Yba.pinned (OpenSpec.ofChange lawS0247BShrinkSpec)

/-- ITS FALSE NEIGHBOUR: 'it returns false'. Refute it at one input. -/
def lawS0247BShrinkWrong : ChangeSpec := { name := "lawS0247BShrink", fn := fun _ => fun
  | [d1, d2, d3] => { results := [.lit (.bool false)], args := [d1, d2, d3] }
  | _ => none }
def LawS0247BShrinkWrongFalsely : Prop := lawS0247BShrinkRow.holds Yba.pinned (OpenSpec.ofChange lawS0247BShrinkWrong)

/-- 'slim-sched.LawS0247CScript': WHATEVER THE INPUT: true; the input reads as it did. -/
def lawS0247CScriptSpec : ChangeSpec := { name := "lawS0247CScript", fn := fun _ => fun
  | [d1, d2] => { results := [.lit (.bool true)], args := [d1, d2] }
  | _ => none }
def lawS0247CScriptRow : OpenClaim := { program := "ybulkeca", sum := "054105d79c6533153eccf809cecb28a424d35895cb607a220f61096b27ef2a2d", func := "example.com/slim-sched/slim-sched.LawS0247CScript", spec := "lawS0247CScript", inPlace := ["sync/atomic.StoreUint64", "sync/atomic.StorePointer", "sync/atomic.LoadUint64", "sync/atomic.CompareAndSwapUint64", "runtime.Gosched", "sync/atomic.LoadPointer", "sync/atomic.CompareAndSwapPointer", "sync/atomic.AddUint64"], unfollowed := true, recurses := true, apart := false }
def LawS0247CScriptSaid : Prop := lawS0247CScriptRow.holds Yba.pinned (OpenSpec.ofChange lawS0247CScriptSpec)

/-- ITS FALSE NEIGHBOUR: 'it returns false'. Refute it at one input. -/
def lawS0247CScriptWrong : ChangeSpec := { name := "lawS0247CScript", fn := fun _ => fun
  | [d1, d2] => { results := [.lit (.bool false)], args := [d1, d2] }
  | _ => none }
def LawS0247CScriptWrongFalsely : Prop := lawS0247CScriptRow.holds Yba.pinned (OpenSpec.ofChange lawS0247CScriptWrong)

end Rows
end Go.Proofs.Ybulkeca
