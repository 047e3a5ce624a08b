/-
  DERIVED. GIVEN WITH THE SEED: THE CARDS: each row of YbulkdzwFmtRows.lean that lists a variable, with what it lists TIED to the program's text (the seventh form; the later family's looks); each row that meets fmt, with fmt's text TOLD by the authors' own Lean function (tested against real Go, not proved from fmt's source: count such statements apart). THE CARD IS WHAT COUNTS. Prove the row's statement (the work); the ties are given (YbulkdzwFmtTie.lean); close each card by the builder's one call (the guide's Derived/Test/ToyasCard.lean, 'card_holds'). Laid BY PROGRAM, IN A SANDBOX (cutbox-door.mjs). By AI agents, Wed Nov 11 2026. No macro, syntax, notation, axiom, sorry.
-/
import Derived.Test.YbulkdzwFmtRows
import GoSem.ClaimSeven
namespace Go.Proofs.YbulkdzwFmt
namespace Rows

/-- THE TOLD CARD OF 'lock.LawS0243BSends'. -/
def lawS0243BSendsCard : Claim7 := { stood := { row := lawS0243BSendsRow, standIns := [], harness := (true, "b6de763cf064b67410c81d7018f0bab2ddb23b59762789c3a9c03ff37e196d73"), looks := true }, told := true, goes := false }
def LawS0243BSendsToldSaid : Prop := Claim7.holds Ybaf.pinned (.plain (OpenSpec.ofChange lawS0243BSendsSpec)) lawS0243BSendsCard
/-- ITS FALSE NEIGHBOUR. Refute it at one input. -/
def LawS0243BSendsToldWrongFalsely : Prop := Claim7.holds Ybaf.pinned (.plain (OpenSpec.ofChange lawS0243BSendsWrong)) lawS0243BSendsCard
end Rows
end Go.Proofs.YbulkdzwFmt
