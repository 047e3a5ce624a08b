/-
  No cell of these rows narrows 'for every input' (looked for: loops, veiled, ifaces, maps, wideKeys, modest, calm, conditions, laid).
  DERIVED. THE GIVEN ROWS OF THIS SEAT. 2 by the template 'for every input the law returns true; each argument reads behind the call as it read before'; 0 by the template 'total and deterministic' (their statements: YbulkehyTotals.lean).
  GIVEN WITH THE SEED: the statements are not yours to turn. If you find one false, say at which input.
  Laid BY PROGRAM, IN A SANDBOX (cutbox-rows.mjs): the forced cells as the released guide's own fill.sh prints them over the translation 5afaa82ffe8e1ff6… (all of the seat's roots in one cut). By AI agents, Wed Nov 11 2026. No macro, syntax, notation, axiom, sorry.
-/
import Derived.Test.YbulkehyChecked
import GoSem.Claim
import GoSem.ClaimJoined
import GoSem.ClaimMapViews
import Derived.JoinedTies
import Derived.KernelRfl
namespace Go.Proofs.Ybulkehy
/- THE CELL 'sum', in the pinned program and in every row, IS THE sha256 OF THE DUMP (.gsa) THAT YbulkehyProg.lean LOADS. Nothing in Lean hashes anything: it is a label: what it is worth is what the hold of that sum in a sandbox is worth. -/
noncomputable def Yba.pinned : Pinned := { name := "ybulkehy", sum := "5afaa82ffe8e1ff6daaa808dcd4df2af918c4dd2ddef70ddf6df0ba0b692cebf", checked := Yba.checked }
namespace Rows
def none {H : Type} : Left H := { results := [], args := [] }

/-- 'remand.LawS0258AAccepts': WHATEVER THE INPUT: true; the input reads as it did. -/
def lawS0258AAcceptsSpec : ChangeSpec := { name := "lawS0258AAccepts", fn := fun _ => fun
  | [d] => { results := [.lit (.bool true)], args := [d] }
  | _ => none }
def lawS0258AAcceptsRow : OpenClaim := { program := "ybulkehy", sum := "5afaa82ffe8e1ff6daaa808dcd4df2af918c4dd2ddef70ddf6df0ba0b692cebf", func := "example.com/remand/remand.LawS0258AAccepts", spec := "lawS0258AAccepts", apart := false }
def LawS0258AAcceptsSaid : Prop := lawS0258AAcceptsRow.holds Yba.pinned (OpenSpec.ofChange lawS0258AAcceptsSpec)

/-- ITS FALSE NEIGHBOUR: 'it returns false'. Refute it at one input. -/
def lawS0258AAcceptsWrong : ChangeSpec := { name := "lawS0258AAccepts", fn := fun _ => fun
  | [d] => { results := [.lit (.bool false)], args := [d] }
  | _ => none }
def LawS0258AAcceptsWrongFalsely : Prop := lawS0258AAcceptsRow.holds Yba.pinned (OpenSpec.ofChange lawS0258AAcceptsWrong)

/-- 'remand.LawS0258AKeeps': WHATEVER THE INPUT: true; the input reads as it did. -/
def lawS0258AKeepsSpec : ChangeSpec := { name := "lawS0258AKeeps", fn := fun _ => fun
  | [d] => { results := [.lit (.bool true)], args := [d] }
  | _ => none }
def lawS0258AKeepsRow : OpenClaim := { program := "ybulkehy", sum := "5afaa82ffe8e1ff6daaa808dcd4df2af918c4dd2ddef70ddf6df0ba0b692cebf", func := "example.com/remand/remand.LawS0258AKeeps", spec := "lawS0258AKeeps", apart := false }
def LawS0258AKeepsSaid : Prop := lawS0258AKeepsRow.holds Yba.pinned (OpenSpec.ofChange lawS0258AKeepsSpec)

/-- ITS FALSE NEIGHBOUR: 'it returns false'. Refute it at one input. -/
def lawS0258AKeepsWrong : ChangeSpec := { name := "lawS0258AKeeps", fn := fun _ => fun
  | [d] => { results := [.lit (.bool false)], args := [d] }
  | _ => none }
def LawS0258AKeepsWrongFalsely : Prop := lawS0258AKeepsRow.holds Yba.pinned (OpenSpec.ofChange lawS0258AKeepsWrong)

end Rows
end Go.Proofs.Ybulkehy
