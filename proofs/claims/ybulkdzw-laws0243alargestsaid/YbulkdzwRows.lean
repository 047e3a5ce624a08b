/-
  No cell of these rows narrows 'for every input' (looked for: loops, veiled, ifaces, maps, wideKeys, modest, calm, conditions, laid).
  DERIVED. THE GIVEN ROWS OF THIS SEAT. 2 by the template 'for every input the law returns true; each argument reads behind the call as it read before'; 0 by the template 'total and deterministic' (their statements: YbulkdzwTotals.lean).
  GIVEN WITH THE SEED: the statements are not yours to turn. If you find one false, say at which input.
  Laid BY PROGRAM, IN A SANDBOX (cutbox-rows.mjs): the forced cells as the released guide's own fill.sh prints them over the translation 26a8a38ca2248ede… (all of the seat's roots in one cut). By AI agents, Wed Nov 11 2026. No macro, syntax, notation, axiom, sorry.
-/
import Derived.Test.YbulkdzwChecked
import GoSem.Claim
import GoSem.ClaimJoined
import GoSem.ClaimMapViews
import Derived.JoinedTies
import Derived.KernelRfl
namespace Go.Proofs.Ybulkdzw
/- THE CELL 'sum', in the pinned program and in every row, IS THE sha256 OF THE DUMP (.gsa) THAT YbulkdzwProg.lean LOADS. Nothing in Lean hashes anything: it is a label: what it is worth is what the hold of that sum in a sandbox is worth. -/
noncomputable def Yba.pinned : Pinned := { name := "ybulkdzw", sum := "26a8a38ca2248ede10a2b250ad47c49b5714cb5d0d9d975792ab28ff6862dc40", checked := Yba.checked }
namespace Rows
def none {H : Type} : Left H := { results := [], args := [] }

/-- 'vclog.LawS0243ALargest': WHATEVER THE INPUT: true; the input reads as it did. -/
def lawS0243ALargestSpec : ChangeSpec := { name := "lawS0243ALargest", fn := fun _ => fun
  | [d1, d2, d3] => { results := [.lit (.bool true)], args := [d1, d2, d3] }
  | _ => none }
def lawS0243ALargestRow : OpenClaim := { program := "ybulkdzw", sum := "26a8a38ca2248ede10a2b250ad47c49b5714cb5d0d9d975792ab28ff6862dc40", func := "example.com/tickwise/tickwise/vclog.LawS0243ALargest", spec := "lawS0243ALargest", inPlace := ["internal/bytealg.abigen_runtime_cmpstring"], unfollowed := true, recurses := true, apart := false }
def LawS0243ALargestSaid : Prop := lawS0243ALargestRow.holds Yba.pinned (OpenSpec.ofChange lawS0243ALargestSpec)

/-- ITS FALSE NEIGHBOUR: 'it returns false'. Refute it at one input. -/
def lawS0243ALargestWrong : ChangeSpec := { name := "lawS0243ALargest", fn := fun _ => fun
  | [d1, d2, d3] => { results := [.lit (.bool false)], args := [d1, d2, d3] }
  | _ => none }
def LawS0243ALargestWrongFalsely : Prop := lawS0243ALargestRow.holds Yba.pinned (OpenSpec.ofChange lawS0243ALargestWrong)

/-- 'lock.LawS0243CAllHeardLater': WHATEVER THE INPUT: true; the input reads as it did. -/
def lawS0243CAllHeardLaterSpec : ChangeSpec := { name := "lawS0243CAllHeardLater", fn := fun _ => fun
  | [d1, d2, d3, d4] => { results := [.lit (.bool true)], args := [d1, d2, d3, d4] }
  | _ => none }
def lawS0243CAllHeardLaterRow : OpenClaim := { program := "ybulkdzw", sum := "26a8a38ca2248ede10a2b250ad47c49b5714cb5d0d9d975792ab28ff6862dc40", func := "example.com/tickwise/tickwise/lock.LawS0243CAllHeardLater", spec := "lawS0243CAllHeardLater", apart := false }
def LawS0243CAllHeardLaterSaid : Prop := lawS0243CAllHeardLaterRow.holds Yba.pinned (OpenSpec.ofChange lawS0243CAllHeardLaterSpec)

/-- ITS FALSE NEIGHBOUR: 'it returns false'. Refute it at one input. -/
def lawS0243CAllHeardLaterWrong : ChangeSpec := { name := "lawS0243CAllHeardLater", fn := fun _ => fun
  | [d1, d2, d3, d4] => { results := [.lit (.bool false)], args := [d1, d2, d3, d4] }
  | _ => none }
def LawS0243CAllHeardLaterWrongFalsely : Prop := lawS0243CAllHeardLaterRow.holds Yba.pinned (OpenSpec.ofChange lawS0243CAllHeardLaterWrong)

end Rows
end Go.Proofs.Ybulkdzw
