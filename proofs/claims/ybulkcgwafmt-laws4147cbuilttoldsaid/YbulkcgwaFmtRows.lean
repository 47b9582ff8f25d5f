/-
  No cell of these rows narrows 'for every input' (looked for: loops, veiled, ifaces, maps, wideKeys, modest, calm, conditions, laid).
  DERIVED. THE GIVEN ROWS OF THIS SEAT. 2 by the template 'for every input the law returns true; each argument reads behind the call as it read before'; 0 by the template 'total and deterministic' (their statements: YbulkcgwaFmtTotals.lean).
  GIVEN WITH THE SEED: the statements are not yours to turn. If you find one false, say at which input.
  Laid BY PROGRAM, IN A SANDBOX (cutbox-rows.mjs): the forced cells as the released guide's own fill.sh prints them over the translation 295a55526988f517… (all of the seat's roots in one cut). By AI agents, Wed Nov 11 2026. No macro, syntax, notation, axiom, sorry.
-/
import Derived.Test.YbulkcgwaFmtChecked
import GoSem.Claim
import GoSem.ClaimJoined
import GoSem.ClaimMapViews
import Derived.JoinedTies
import Derived.KernelRfl
namespace Go.Proofs.YbulkcgwaFmt
/- THE CELL 'sum', in the pinned program and in every row, IS THE sha256 OF THE DUMP (.gsa) THAT YbulkcgwaFmtProg.lean LOADS. Nothing in Lean hashes anything: it is a label: what it is worth is what the hold of that sum in a sandbox is worth. -/
noncomputable def Ybaf.pinned : Pinned := { name := "ybulkcgwafmt", sum := "295a55526988f517f34653110949910663060a9a94c958bd865a3fdcdbe0a043", checked := Ybaf.checked }
namespace Rows
def none {H : Type} : Left H := { results := [], args := [] }

/-- 'suci.LawS4147CModel': WHATEVER THE INPUT: true; the input reads as it did. -/
def lawS4147CModelSpec : ChangeSpec := { name := "lawS4147CModel", fn := fun _ => fun
  | [d1, d2] => { results := [.lit (.bool true)], args := [d1, d2] }
  | _ => none }
def lawS4147CModelRow : OpenClaim := { program := "ybulkcgwafmt", sum := "295a55526988f517f34653110949910663060a9a94c958bd865a3fdcdbe0a043", func := "example.com/veilkey/veilkey/suci.LawS4147CModel", spec := "lawS4147CModel", stops := ["fmt.errorf"], inPlace := ["fmt.errorf"], apart := false }
/-- NO THEOREM (fmt's text is open here; it may be false): for the released tool's asking of the row's closed facts alone. THE STATEMENT IS 'LawS4147CModelToldSaid' (YbulkcgwaFmtCards.lean). -/
def LawS4147CModelFormAsk : Prop := lawS4147CModelRow.holds Ybaf.pinned (OpenSpec.ofChange lawS4147CModelSpec)

/-- ITS FALSE NEIGHBOUR: 'it returns false'. Refute it at one input. -/
def lawS4147CModelWrong : ChangeSpec := { name := "lawS4147CModel", fn := fun _ => fun
  | [d1, d2] => { results := [.lit (.bool false)], args := [d1, d2] }
  | _ => none }
def LawS4147CModelWrongFormAsk : Prop := lawS4147CModelRow.holds Ybaf.pinned (OpenSpec.ofChange lawS4147CModelWrong)

/-- 'suci.LawS4147CBuilt': WHATEVER THE INPUT: true; the input reads as it did. -/
def lawS4147CBuiltSpec : ChangeSpec := { name := "lawS4147CBuilt", fn := fun _ => fun
  | [d1, d2, d3] => { results := [.lit (.bool true)], args := [d1, d2, d3] }
  | _ => none }
def lawS4147CBuiltRow : OpenClaim := { program := "ybulkcgwafmt", sum := "295a55526988f517f34653110949910663060a9a94c958bd865a3fdcdbe0a043", func := "example.com/veilkey/veilkey/suci.LawS4147CBuilt", spec := "lawS4147CBuilt", stops := ["fmt.errorf"], inPlace := ["fmt.errorf"], apart := false }
/-- NO THEOREM (fmt's text is open here; it may be false): for the released tool's asking of the row's closed facts alone. THE STATEMENT IS 'LawS4147CBuiltToldSaid' (YbulkcgwaFmtCards.lean). -/
def LawS4147CBuiltFormAsk : Prop := lawS4147CBuiltRow.holds Ybaf.pinned (OpenSpec.ofChange lawS4147CBuiltSpec)

/-- ITS FALSE NEIGHBOUR: 'it returns false'. Refute it at one input. -/
def lawS4147CBuiltWrong : ChangeSpec := { name := "lawS4147CBuilt", fn := fun _ => fun
  | [d1, d2, d3] => { results := [.lit (.bool false)], args := [d1, d2, d3] }
  | _ => none }
def LawS4147CBuiltWrongFormAsk : Prop := lawS4147CBuiltRow.holds Ybaf.pinned (OpenSpec.ofChange lawS4147CBuiltWrong)

end Rows
end Go.Proofs.YbulkcgwaFmt
