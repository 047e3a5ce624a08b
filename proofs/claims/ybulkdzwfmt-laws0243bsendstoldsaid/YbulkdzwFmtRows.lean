/-
  No cell of these rows narrows 'for every input' (looked for: loops, veiled, ifaces, maps, wideKeys, modest, calm, conditions, laid).
  DERIVED. THE GIVEN ROWS OF THIS SEAT. 1 by the template 'for every input the law returns true; each argument reads behind the call as it read before'; 0 by the template 'total and deterministic' (their statements: YbulkdzwFmtTotals.lean).
  GIVEN WITH THE SEED: the statements are not yours to turn. If you find one false, say at which input.
  Laid BY PROGRAM, IN A SANDBOX (cutbox-rows.mjs): the forced cells as the released guide's own fill.sh prints them over the translation 6f166135e5080ee2… (all of the seat's roots in one cut). By AI agents, Wed Nov 11 2026. No macro, syntax, notation, axiom, sorry.
-/
import Derived.Test.YbulkdzwFmtChecked
import GoSem.Claim
import GoSem.ClaimJoined
import GoSem.ClaimMapViews
import Derived.JoinedTies
import Derived.KernelRfl
namespace Go.Proofs.YbulkdzwFmt
/- THE CELL 'sum', in the pinned program and in every row, IS THE sha256 OF THE DUMP (.gsa) THAT YbulkdzwFmtProg.lean LOADS. Nothing in Lean hashes anything: it is a label: what it is worth is what the hold of that sum in a sandbox is worth. -/
noncomputable def Ybaf.pinned : Pinned := { name := "ybulkdzwfmt", sum := "6f166135e5080ee2dcaf7a03471b4d933fabf9f065c57b2e0e0926b2b1839bee", checked := Ybaf.checked }
namespace Rows
def none {H : Type} : Left H := { results := [], args := [] }

/-- 'lock.LawS0243BSends': WHATEVER THE INPUT: true; the input reads as it did. -/
def lawS0243BSendsSpec : ChangeSpec := { name := "lawS0243BSends", fn := fun _ => fun
  | [d1, d2, d3, d4, d5] => { results := [.lit (.bool true)], args := [d1, d2, d3, d4, d5] }
  | _ => none }
def lawS0243BSendsRow : OpenClaim := { program := "ybulkdzwfmt", sum := "6f166135e5080ee2dcaf7a03471b4d933fabf9f065c57b2e0e0926b2b1839bee", func := "example.com/tickwise/tickwise/lock.LawS0243BSends", spec := "lawS0243BSends", stops := ["fmt.errorf"], inPlace := ["fmt.errorf", "internal/reflectlite.TypeOf"], unfollowed := true, recurses := true, apart := false }
/-- NO THEOREM (fmt's text is open here; it may be false): for the released tool's asking of the row's closed facts alone. THE STATEMENT IS 'LawS0243BSendsToldSaid' (YbulkdzwFmtCards.lean). -/
def LawS0243BSendsFormAsk : Prop := lawS0243BSendsRow.holds Ybaf.pinned (OpenSpec.ofChange lawS0243BSendsSpec)

/-- ITS FALSE NEIGHBOUR: 'it returns false'. Refute it at one input. -/
def lawS0243BSendsWrong : ChangeSpec := { name := "lawS0243BSends", fn := fun _ => fun
  | [d1, d2, d3, d4, d5] => { results := [.lit (.bool false)], args := [d1, d2, d3, d4, d5] }
  | _ => none }
def LawS0243BSendsWrongFormAsk : Prop := lawS0243BSendsRow.holds Ybaf.pinned (OpenSpec.ofChange lawS0243BSendsWrong)

end Rows
end Go.Proofs.YbulkdzwFmt
