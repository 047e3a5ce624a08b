/-
  No cell of these rows narrows 'for every input' (looked for: loops, veiled, ifaces, maps, wideKeys, modest, calm, conditions, laid).
  DERIVED. THE GIVEN ROWS OF THIS SEAT. 2 by the template 'for every input the law returns true; each argument reads behind the call as it read before'; 0 by the template 'total and deterministic' (their statements: YbulkeakTotals.lean).
  GIVEN WITH THE SEED: the statements are not yours to turn. If you find one false, say at which input.
  Laid BY PROGRAM, IN A SANDBOX (cutbox-rows.mjs): the forced cells as the released guide's own fill.sh prints them over the translation 1ebf2b0972c9419e… (all of the seat's roots in one cut). By AI agents, Wed Nov 11 2026. No macro, syntax, notation, axiom, sorry.
-/
import Derived.Test.YbulkeakChecked
import GoSem.Claim
import GoSem.ClaimJoined
import GoSem.ClaimMapViews
import Derived.JoinedTies
import Derived.KernelRfl
namespace Go.Proofs.Ybulkeak
/- THE CELL 'sum', in the pinned program and in every row, IS THE sha256 OF THE DUMP (.gsa) THAT YbulkeakProg.lean LOADS. Nothing in Lean hashes anything: it is a label: what it is worth is what the hold of that sum in a sandbox is worth. -/
noncomputable def Yba.pinned : Pinned := { name := "ybulkeak", sum := "1ebf2b0972c9419e4fb6f6eb960577b3e0fbb5a8f9d4ef62715d59fb8434732b", checked := Yba.checked }
namespace Rows
def none {H : Type} : Left H := { results := [], args := [] }

/-- 'ringfinger.LawS0244CFields': WHATEVER THE INPUT: true; the input reads as it did. -/
def lawS0244CFieldsSpec : ChangeSpec := { name := "lawS0244CFields", fn := fun _ => fun
  | [d1, d2, d3, d4] => { results := [.lit (.bool true)], args := [d1, d2, d3, d4] }
  | _ => none }
def lawS0244CFieldsRow : OpenClaim := { program := "ybulkeak", sum := "1ebf2b0972c9419e4fb6f6eb960577b3e0fbb5a8f9d4ef62715d59fb8434732b", func := "example.com/ringfinger/ringfinger.LawS0244CFields", spec := "lawS0244CFields", apart := false }
def LawS0244CFieldsSaid : Prop := lawS0244CFieldsRow.holds Yba.pinned (OpenSpec.ofChange lawS0244CFieldsSpec)

/-- ITS FALSE NEIGHBOUR: 'it returns false'. Refute it at one input. -/
def lawS0244CFieldsWrong : ChangeSpec := { name := "lawS0244CFields", fn := fun _ => fun
  | [d1, d2, d3, d4] => { results := [.lit (.bool false)], args := [d1, d2, d3, d4] }
  | _ => none }
def LawS0244CFieldsWrongFalsely : Prop := lawS0244CFieldsRow.holds Yba.pinned (OpenSpec.ofChange lawS0244CFieldsWrong)

/-- 'ringfinger.LawS0244CBody': WHATEVER THE INPUT: true; the input reads as it did. -/
def lawS0244CBodySpec : ChangeSpec := { name := "lawS0244CBody", fn := fun _ => fun
  | [d1, d2] => { results := [.lit (.bool true)], args := [d1, d2] }
  | _ => none }
def lawS0244CBodyRow : OpenClaim := { program := "ybulkeak", sum := "1ebf2b0972c9419e4fb6f6eb960577b3e0fbb5a8f9d4ef62715d59fb8434732b", func := "example.com/ringfinger/ringfinger.LawS0244CBody", spec := "lawS0244CBody", apart := false }
def LawS0244CBodySaid : Prop := lawS0244CBodyRow.holds Yba.pinned (OpenSpec.ofChange lawS0244CBodySpec)

/-- ITS FALSE NEIGHBOUR: 'it returns false'. Refute it at one input. -/
def lawS0244CBodyWrong : ChangeSpec := { name := "lawS0244CBody", fn := fun _ => fun
  | [d1, d2] => { results := [.lit (.bool false)], args := [d1, d2] }
  | _ => none }
def LawS0244CBodyWrongFalsely : Prop := lawS0244CBodyRow.holds Yba.pinned (OpenSpec.ofChange lawS0244CBodyWrong)

end Rows
end Go.Proofs.Ybulkeak
