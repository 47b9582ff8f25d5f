/-
  No cell of these rows narrows 'for every input' (looked for: loops, veiled, ifaces, maps, wideKeys, modest, calm, conditions, laid).
  DERIVED. THE GIVEN ROWS OF THIS SEAT. 3 by the template 'for every input the law returns true; each argument reads behind the call as it read before'; 0 by the template 'total and deterministic' (their statements: YbulkcgvmTotals.lean).
  GIVEN WITH THE SEED: the statements are not yours to turn. If you find one false, say at which input.
  Laid BY PROGRAM, IN A SANDBOX (cutbox-rows.mjs): the forced cells as the released guide's own fill.sh prints them over the translation d06ea6a64b78cca0… (all of the seat's roots in one cut). By AI agents, Wed Nov 11 2026. No macro, syntax, notation, axiom, sorry.
-/
import Derived.Test.YbulkcgvmChecked
import GoSem.Claim
import GoSem.ClaimJoined
import GoSem.ClaimMapViews
import Derived.JoinedTies
import Derived.KernelRfl
namespace Go.Proofs.Ybulkcgvm
/- THE CELL 'sum', in the pinned program and in every row, IS THE sha256 OF THE DUMP (.gsa) THAT YbulkcgvmProg.lean LOADS. Nothing in Lean hashes anything: it is a label: what it is worth is what the hold of that sum in a sandbox is worth. -/
noncomputable def Yba.pinned : Pinned := { name := "ybulkcgvm", sum := "d06ea6a64b78cca0efa4f5bb45caba8614006ce7eabb8270797695df8776c1a4", checked := Yba.checked }
namespace Rows
def none {H : Type} : Left H := { results := [], args := [] }

/-- 'server.LawS4146AKeep': WHATEVER THE INPUT: true; the input reads as it did. -/
def lawS4146AKeepSpec : ChangeSpec := { name := "lawS4146AKeep", fn := fun _ => fun
  | [d1, d2, d3, d4] => { results := [.lit (.bool true)], args := [d1, d2, d3, d4] }
  | _ => none }
def lawS4146AKeepRow : OpenClaim := { program := "ybulkcgvm", sum := "d06ea6a64b78cca0efa4f5bb45caba8614006ce7eabb8270797695df8776c1a4", func := "example.com/sentrylog/sentrylog/internal/server.LawS4146AKeep", spec := "lawS4146AKeep", apart := false }
def LawS4146AKeepSaid : Prop := lawS4146AKeepRow.holds Yba.pinned (OpenSpec.ofChange lawS4146AKeepSpec)

/-- ITS FALSE NEIGHBOUR: 'it returns false'. Refute it at one input. -/
def lawS4146AKeepWrong : ChangeSpec := { name := "lawS4146AKeep", fn := fun _ => fun
  | [d1, d2, d3, d4] => { results := [.lit (.bool false)], args := [d1, d2, d3, d4] }
  | _ => none }
def LawS4146AKeepWrongFalsely : Prop := lawS4146AKeepRow.holds Yba.pinned (OpenSpec.ofChange lawS4146AKeepWrong)

/-- 'syslog.LawS4146BModel': WHATEVER THE INPUT: true; the input reads as it did. -/
def lawS4146BModelSpec : ChangeSpec := { name := "lawS4146BModel", fn := fun _ => fun
  | [d1, d2] => { results := [.lit (.bool true)], args := [d1, d2] }
  | _ => none }
def lawS4146BModelRow : OpenClaim := { program := "ybulkcgvm", sum := "d06ea6a64b78cca0efa4f5bb45caba8614006ce7eabb8270797695df8776c1a4", func := "example.com/sentrylog/sentrylog/internal/syslog.LawS4146BModel", spec := "lawS4146BModel", apart := false }
def LawS4146BModelSaid : Prop := lawS4146BModelRow.holds Yba.pinned (OpenSpec.ofChange lawS4146BModelSpec)

/-- ITS FALSE NEIGHBOUR: 'it returns false'. Refute it at one input. -/
def lawS4146BModelWrong : ChangeSpec := { name := "lawS4146BModel", fn := fun _ => fun
  | [d1, d2] => { results := [.lit (.bool false)], args := [d1, d2] }
  | _ => none }
def LawS4146BModelWrongFalsely : Prop := lawS4146BModelRow.holds Yba.pinned (OpenSpec.ofChange lawS4146BModelWrong)

/-- 'syslog.LawS4146BBuilt': WHATEVER THE INPUT: true; the input reads as it did. -/
def lawS4146BBuiltSpec : ChangeSpec := { name := "lawS4146BBuilt", fn := fun _ => fun
  | [d1, d2] => { results := [.lit (.bool true)], args := [d1, d2] }
  | _ => none }
def lawS4146BBuiltRow : OpenClaim := { program := "ybulkcgvm", sum := "d06ea6a64b78cca0efa4f5bb45caba8614006ce7eabb8270797695df8776c1a4", func := "example.com/sentrylog/sentrylog/internal/syslog.LawS4146BBuilt", spec := "lawS4146BBuilt", apart := false }
def LawS4146BBuiltSaid : Prop := lawS4146BBuiltRow.holds Yba.pinned (OpenSpec.ofChange lawS4146BBuiltSpec)

/-- ITS FALSE NEIGHBOUR: 'it returns false'. Refute it at one input. -/
def lawS4146BBuiltWrong : ChangeSpec := { name := "lawS4146BBuilt", fn := fun _ => fun
  | [d1, d2] => { results := [.lit (.bool false)], args := [d1, d2] }
  | _ => none }
def LawS4146BBuiltWrongFalsely : Prop := lawS4146BBuiltRow.holds Yba.pinned (OpenSpec.ofChange lawS4146BBuiltWrong)

end Rows
end Go.Proofs.Ybulkcgvm
