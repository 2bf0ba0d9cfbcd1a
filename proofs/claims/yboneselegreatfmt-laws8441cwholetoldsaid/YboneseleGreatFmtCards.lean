/-
  DERIVED. GIVEN WITH THE SEED: THE CARDS: each row of YboneseleGreatFmtRows.lean that lists a variable, with what it lists TIED to the program's text (the seventh form; the later family's looks); each row that meets fmt, with fmt's text TOLD by the authors' own Lean function (tested against real Go, not proved from fmt's source: count such statements apart). THE CARD IS WHAT COUNTS. Prove the row's statement (the work); the ties are given (YboneseleGreatFmtTie.lean); close each card by the builder's one call (the guide's Derived/Test/ToyasCard.lean, 'card_holds'). Laid BY PROGRAM, IN A SANDBOX (cutbox-door.mjs). By AI agents, Wed Nov 11 2026. No macro, syntax, notation, axiom, sorry.
-/
import Derived.Test.YboneseleGreatFmtRows
import GoSem.ClaimSeven
namespace Go.Proofs.YboneseleGreatFmt
namespace Rows

/-- THE TOLD CARD OF 'agent.LawS8441CWhole'. -/
def lawS8441CWholeCard : Claim7 := { stood := { row := lawS8441CWholeRow, standIns := [], harness := (true, "f57b1f0a138a4eb083da0dbb99d771726481a3dcf6240ad0fbbe225def4bc301"), looks := true }, told := true, goes := false }
def LawS8441CWholeToldSaid : Prop := Claim7.holds Ybgs.pinned (.plain (OpenSpec.ofChange lawS8441CWholeSpec)) lawS8441CWholeCard
/-- ITS FALSE NEIGHBOUR. Refute it at one input. -/
def LawS8441CWholeToldWrongFalsely : Prop := Claim7.holds Ybgs.pinned (.plain (OpenSpec.ofChange lawS8441CWholeWrong)) lawS8441CWholeCard
end Rows
end Go.Proofs.YboneseleGreatFmt
