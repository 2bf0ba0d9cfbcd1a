/-
  No cell of these rows narrows 'for every input' (looked for: loops, veiled, ifaces, maps, wideKeys, modest, calm, conditions, laid).
  DERIVED. THE GIVEN ROWS OF THIS SEAT. 1 by the template 'for every input the law returns true; each argument reads behind the call as it read before'; 0 by the template 'total and deterministic' (their statements: YboneseleGreatFmtTotals.lean).
  GIVEN WITH THE SEED: the statements are not yours to turn. If you find one false, say at which input.
  Laid BY PROGRAM, IN A SANDBOX (cutbox-rows.mjs): the forced cells as the released guide's own fill.sh prints them over the translation c8da56c52224b9c4… (all of the seat's roots in one cut). By AI agents, Wed Nov 11 2026. No macro, syntax, notation, axiom, sorry.
-/
import Derived.Test.YboneseleGreatFmtChecked
import GoSem.Claim
import GoSem.ClaimJoined
import GoSem.ClaimMapViews
import Derived.JoinedTies
import Derived.KernelRfl
namespace Go.Proofs.YboneseleGreatFmt
/- THE CELL 'sum', in the pinned program and in every row, IS THE sha256 OF THE DUMP (.gsa) THAT YboneseleGreatFmtProg.lean LOADS. Nothing in Lean hashes anything: it is a label: what it is worth is what the hold of that sum in a sandbox is worth. -/
noncomputable def Ybgs.pinned : Pinned := { name := "yboneselegreatfmt", sum := "c8da56c52224b9c467d61b06f8eddb91d040357d8d252d04fb2d25e86e738632", checked := Ybgs.checked }
namespace Rows
def none {H : Type} : Left H := { results := [], args := [] }

/-- 'agent.LawS8441CWhole': WHATEVER THE INPUT: true; the input reads as it did. -/
def lawS8441CWholeSpec : ChangeSpec := { name := "lawS8441CWhole", fn := fun _ => fun
  | [d1, d2, d3, d4, d5] => { results := [.lit (.bool true)], args := [d1, d2, d3, d4, d5] }
  | _ => none }
def lawS8441CWholeRow : OpenClaim := { program := "yboneselegreatfmt", sum := "c8da56c52224b9c467d61b06f8eddb91d040357d8d252d04fb2d25e86e738632", func := "example.com/pactum/pactum/agent.LawS8441CWhole", spec := "lawS8441CWhole", stops := ["fmt.Sprintf"], inPlace := ["fmt.Sprintf"], unfollowed := true, recurses := true, plainKeys := false, apart := false }
/-- NO THEOREM (fmt's text is open here; it may be false): for the released tool's asking of the row's closed facts alone. THE STATEMENT IS 'LawS8441CWholeToldSaid' (YboneseleGreatFmtCards.lean). -/
def LawS8441CWholeFormAsk : Prop := lawS8441CWholeRow.holds Ybgs.pinned (OpenSpec.ofChange lawS8441CWholeSpec)

/-- ITS FALSE NEIGHBOUR: 'it returns false'. Refute it at one input. -/
def lawS8441CWholeWrong : ChangeSpec := { name := "lawS8441CWhole", fn := fun _ => fun
  | [d1, d2, d3, d4, d5] => { results := [.lit (.bool false)], args := [d1, d2, d3, d4, d5] }
  | _ => none }
def LawS8441CWholeWrongFormAsk : Prop := lawS8441CWholeRow.holds Ybgs.pinned (OpenSpec.ofChange lawS8441CWholeWrong)

end Rows
end Go.Proofs.YboneseleGreatFmt
