/-
  DERIVED. GIVEN WITH THE SEED: THE CARDS: each row of YbulkfsekDoorRows.lean that lists a variable, with what it lists TIED to the program's text (the seventh form; the later family's looks); each row that meets fmt, with fmt's text TOLD by the authors' own Lean function (tested against real Go, not proved from fmt's source: count such statements apart). THE CARD IS WHAT COUNTS. Prove the row's statement (the work); the ties are given (YbulkfsekDoorTie.lean); close each card by the builder's one call (the guide's Derived/Test/ToyasCard.lean, 'card_holds'). Laid BY PROGRAM, IN A SANDBOX (cutbox-door.mjs). By AI agents, Wed Nov 11 2026. No macro, syntax, notation, axiom, sorry.
-/
import Derived.Test.YbulkfsekDoorRows
import GoSem.ClaimSeven
namespace Go.Proofs.YbulkfsekDoor
namespace Rows

/-- THE TIED CARD OF 'sim.LawS8460AWhole'. -/
def lawS8460AWholeCard : Claim7 := { stood := { row := lawS8460AWholeRow, standIns := [], harness := (true, "be731412a3d64a8277e3ff172ed2d8885f122dab680016ad1245c22c29b2da61"), looks := false }, kinds := [], alts := [], laidByText := true, laidKinds := [.data, .data, .data], laidTests := true, laidLooks := .later }
def LawS8460AWholeCardSaid : Prop := Claim7.holds Ybad.pinned (.plain (OpenSpec.ofChange lawS8460AWholeSpec)) lawS8460AWholeCard

/-- THE TIED CARD OF 'causalis.LawS8460BWhole'. -/
def lawS8460BWholeCard : Claim7 := { stood := { row := lawS8460BWholeRow, standIns := [], harness := (true, "be731412a3d64a8277e3ff172ed2d8885f122dab680016ad1245c22c29b2da61"), looks := false }, kinds := [], alts := [], laidByText := true, laidKinds := [.sentinel], laidTests := true, laidLooks := .later }
def LawS8460BWholeCardSaid : Prop := Claim7.holds Ybad.pinned (.plain (OpenSpec.ofChange lawS8460BWholeSpec)) lawS8460BWholeCard
end Rows
end Go.Proofs.YbulkfsekDoor
