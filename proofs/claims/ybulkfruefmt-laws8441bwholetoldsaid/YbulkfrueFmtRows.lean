/-
  No cell of these rows narrows 'for every input' (looked for: loops, veiled, ifaces, maps, wideKeys, modest, calm, conditions, laid).
  DERIVED. THE GIVEN ROWS OF THIS SEAT. 1 by the template 'for every input the law returns true; each argument reads behind the call as it read before'; 0 by the template 'total and deterministic' (their statements: YbulkfrueFmtTotals.lean).
  GIVEN WITH THE SEED: the statements are not yours to turn. If you find one false, say at which input.
  Laid BY PROGRAM, IN A SANDBOX (cutbox-rows.mjs): the forced cells as the released guide's own fill.sh prints them over the translation 57df38a9984ccb99… (all of the seat's roots in one cut). By AI agents, Wed Nov 11 2026. No macro, syntax, notation, axiom, sorry.
-/
import Derived.Test.YbulkfrueFmtChecked
import GoSem.Claim
import GoSem.ClaimJoined
import GoSem.ClaimMapViews
import Derived.JoinedTies
import Derived.KernelRfl
namespace Go.Proofs.YbulkfrueFmt
/- THE CELL 'sum', in the pinned program and in every row, IS THE sha256 OF THE DUMP (.gsa) THAT YbulkfrueFmtProg.lean LOADS. Nothing in Lean hashes anything: it is a label: what it is worth is what the hold of that sum in a sandbox is worth. -/
noncomputable def Ybaf.pinned : Pinned := { name := "ybulkfruefmt", sum := "57df38a9984ccb9911492dc731def5cdca3a5867da81701dc887e899eb0d18e0", checked := Ybaf.checked }
namespace Rows
def none {H : Type} : Left H := { results := [], args := [] }

/-- 'policy.LawS8441BWhole': WHATEVER THE INPUT: true; the input reads as it did. -/
def lawS8441BWholeSpec : ChangeSpec := { name := "lawS8441BWhole", fn := fun _ => fun
  | [d1, d2, d3] => { results := [.lit (.bool true)], args := [d1, d2, d3] }
  | _ => none }
def lawS8441BWholeRow : OpenClaim := { program := "ybulkfruefmt", sum := "57df38a9984ccb9911492dc731def5cdca3a5867da81701dc887e899eb0d18e0", func := "example.com/pactum/pactum/policy.LawS8441BWhole", spec := "lawS8441BWhole", stops := ["fmt.Sprintf"], inPlace := ["fmt.Sprintf"], unfollowed := true, recurses := true, apart := false }
/-- NO THEOREM (fmt's text is open here; it may be false): for the released tool's asking of the row's closed facts alone. THE STATEMENT IS 'LawS8441BWholeToldSaid' (YbulkfrueFmtCards.lean). -/
def LawS8441BWholeFormAsk : Prop := lawS8441BWholeRow.holds Ybaf.pinned (OpenSpec.ofChange lawS8441BWholeSpec)

/-- ITS FALSE NEIGHBOUR: 'it returns false'. Refute it at one input. -/
def lawS8441BWholeWrong : ChangeSpec := { name := "lawS8441BWhole", fn := fun _ => fun
  | [d1, d2, d3] => { results := [.lit (.bool false)], args := [d1, d2, d3] }
  | _ => none }
def LawS8441BWholeWrongFormAsk : Prop := lawS8441BWholeRow.holds Ybaf.pinned (OpenSpec.ofChange lawS8441BWholeWrong)

end Rows
end Go.Proofs.YbulkfrueFmt
