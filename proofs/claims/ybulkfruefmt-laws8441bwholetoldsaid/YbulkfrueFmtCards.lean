/-
  DERIVED. GIVEN WITH THE SEED: THE CARDS: each row of YbulkfrueFmtRows.lean that lists a variable, with what it lists TIED to the program's text (the seventh form; the later family's looks); each row that meets fmt, with fmt's text TOLD by the authors' own Lean function (tested against real Go, not proved from fmt's source: count such statements apart). THE CARD IS WHAT COUNTS. Prove the row's statement (the work); the ties are given (YbulkfrueFmtTie.lean); close each card by the builder's one call (the guide's Derived/Test/ToyasCard.lean, 'card_holds'). Laid BY PROGRAM, IN A SANDBOX (cutbox-door.mjs). By AI agents, Wed Nov 11 2026. No macro, syntax, notation, axiom, sorry.
-/
import Derived.Test.YbulkfrueFmtRows
import GoSem.ClaimSeven
namespace Go.Proofs.YbulkfrueFmt
namespace Rows

/-- THE TOLD CARD OF 'policy.LawS8441BWhole'. -/
def lawS8441BWholeCard : Claim7 := { stood := { row := lawS8441BWholeRow, standIns := [], harness := (true, "f6a3f707255a8dcd99d885e7057e22e5b5939ece592d3a64a1bf6b4662f06d7d"), looks := true }, told := true, goes := false }
def LawS8441BWholeToldSaid : Prop := Claim7.holds Ybaf.pinned (.plain (OpenSpec.ofChange lawS8441BWholeSpec)) lawS8441BWholeCard
/-- ITS FALSE NEIGHBOUR. Refute it at one input. -/
def LawS8441BWholeToldWrongFalsely : Prop := Claim7.holds Ybaf.pinned (.plain (OpenSpec.ofChange lawS8441BWholeWrong)) lawS8441BWholeCard
end Rows
end Go.Proofs.YbulkfrueFmt
