/-
  No cell of these rows narrows 'for every input' (looked for: loops, veiled, ifaces, maps, wideKeys, modest, calm, conditions, laid).
  DERIVED. THE GIVEN ROWS OF THIS SEAT. 1 by the template 'for every input the law returns true; each argument reads behind the call as it read before'; 0 by the template 'total and deterministic' (their statements: YbulkfrvgTotals.lean).
  GIVEN WITH THE SEED: the statements are not yours to turn. If you find one false, say at which input.
  Laid BY PROGRAM, IN A SANDBOX (cutbox-rows.mjs): the forced cells as the released guide's own fill.sh prints them over the translation ff2561a2aa5f92e0… (all of the seat's roots in one cut). By AI agents, Wed Nov 11 2026. No macro, syntax, notation, axiom, sorry.
-/
import Derived.Test.YbulkfrvgChecked
import GoSem.Claim
import GoSem.ClaimJoined
import GoSem.ClaimMapViews
import Derived.JoinedTies
import Derived.KernelRfl
namespace Go.Proofs.Ybulkfrvg
/- THE CELL 'sum', in the pinned program and in every row, IS THE sha256 OF THE DUMP (.gsa) THAT YbulkfrvgProg.lean LOADS. Nothing in Lean hashes anything: it is a label: what it is worth is what the hold of that sum in a sandbox is worth. -/
noncomputable def Yba.pinned : Pinned := { name := "ybulkfrvg", sum := "ff2561a2aa5f92e0a730922119012c5a423894bdcba999f9469c703299e057b9", checked := Yba.checked }
namespace Rows
def none {H : Type} : Left H := { results := [], args := [] }

/-- 'register.LawS8443AWhole': WHATEVER THE INPUT: true; the input reads as it did. -/
def lawS8443AWholeSpec : ChangeSpec := { name := "lawS8443AWhole", fn := fun _ => fun
  | [d1, d2, d3, d4, d5, d6] => { results := [.lit (.bool true)], args := [d1, d2, d3, d4, d5, d6] }
  | _ => none }
def lawS8443AWholeRow : OpenClaim := { program := "ybulkfrvg", sum := "ff2561a2aa5f92e0a730922119012c5a423894bdcba999f9469c703299e057b9", func := "example.com/zhaomu/zhaomu/register.LawS8443AWhole", spec := "lawS8443AWhole", plainKeys := false, apart := false }
def LawS8443AWholeSaid : Prop := lawS8443AWholeRow.holds Yba.pinned (OpenSpec.ofChange lawS8443AWholeSpec)

/-- ITS FALSE NEIGHBOUR: 'it returns false'. Refute it at one input. -/
def lawS8443AWholeWrong : ChangeSpec := { name := "lawS8443AWhole", fn := fun _ => fun
  | [d1, d2, d3, d4, d5, d6] => { results := [.lit (.bool false)], args := [d1, d2, d3, d4, d5, d6] }
  | _ => none }
def LawS8443AWholeWrongFalsely : Prop := lawS8443AWholeRow.holds Yba.pinned (OpenSpec.ofChange lawS8443AWholeWrong)

end Rows
end Go.Proofs.Ybulkfrvg
