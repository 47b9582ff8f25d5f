/-
  No cell of these rows narrows 'for every input' (looked for: loops, veiled, ifaces, maps, wideKeys, modest, calm, conditions, laid).
  DERIVED. THE GIVEN ROWS OF THIS SEAT. 1 by the template 'for every input the law returns true; each argument reads behind the call as it read before'; 0 by the template 'total and deterministic' (their statements: YbulkchdoTotals.lean).
  GIVEN WITH THE SEED: the statements are not yours to turn. If you find one false, say at which input.
  Laid BY PROGRAM, IN A SANDBOX (cutbox-rows.mjs): the forced cells as the released guide's own fill.sh prints them over the translation 560a77afe7d7f5b5… (all of the seat's roots in one cut). By AI agents, Wed Nov 11 2026. No macro, syntax, notation, axiom, sorry.
-/
import Derived.Test.YbulkchdoChecked
import GoSem.Claim
import GoSem.ClaimJoined
import GoSem.ClaimMapViews
import Derived.JoinedTies
import Derived.KernelRfl
namespace Go.Proofs.Ybulkchdo
/- THE CELL 'sum', in the pinned program and in every row, IS THE sha256 OF THE DUMP (.gsa) THAT YbulkchdoProg.lean LOADS. Nothing in Lean hashes anything: it is a label: what it is worth is what the hold of that sum in a sandbox is worth. -/
noncomputable def Yba.pinned : Pinned := { name := "ybulkchdo", sum := "560a77afe7d7f5b5c2171b81434c5b60eebe4d08993818cf550fd35eed504d6b", checked := Yba.checked }
namespace Rows
def none {H : Type} : Left H := { results := [], args := [] }

/-- 'nas.LawS4161BLinks': WHATEVER THE INPUT: true; the input reads as it did. -/
def lawS4161BLinksSpec : ChangeSpec := { name := "lawS4161BLinks", fn := fun _ => fun
  | [d1, d2, d3, d4, d5, d6] => { results := [.lit (.bool true)], args := [d1, d2, d3, d4, d5, d6] }
  | _ => none }
def lawS4161BLinksRow : OpenClaim := { program := "ybulkchdo", sum := "560a77afe7d7f5b5c2171b81434c5b60eebe4d08993818cf550fd35eed504d6b", func := "example.com/bearerbench/bearerbench/nas.LawS4161BLinks", spec := "lawS4161BLinks", apart := false }
def LawS4161BLinksSaid : Prop := lawS4161BLinksRow.holds Yba.pinned (OpenSpec.ofChange lawS4161BLinksSpec)

/-- ITS FALSE NEIGHBOUR: 'it returns false'. Refute it at one input. -/
def lawS4161BLinksWrong : ChangeSpec := { name := "lawS4161BLinks", fn := fun _ => fun
  | [d1, d2, d3, d4, d5, d6] => { results := [.lit (.bool false)], args := [d1, d2, d3, d4, d5, d6] }
  | _ => none }
def LawS4161BLinksWrongFalsely : Prop := lawS4161BLinksRow.holds Yba.pinned (OpenSpec.ofChange lawS4161BLinksWrong)

end Rows
end Go.Proofs.Ybulkchdo
