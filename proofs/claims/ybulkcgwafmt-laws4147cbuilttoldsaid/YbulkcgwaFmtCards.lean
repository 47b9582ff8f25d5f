/-
  DERIVED. GIVEN WITH THE SEED: THE CARDS: each row of YbulkcgwaFmtRows.lean that lists a variable, with what it lists TIED to the program's text (the seventh form; the later family's looks); each row that meets fmt, with fmt's text TOLD by the authors' own Lean function (tested against real Go, not proved from fmt's source: count such statements apart). THE CARD IS WHAT COUNTS. Prove the row's statement (the work); the ties are given (YbulkcgwaFmtTie.lean); close each card by the builder's one call (the guide's Derived/Test/ToyasCard.lean, 'card_holds'). Laid BY PROGRAM, IN A SANDBOX (cutbox-door.mjs). By AI agents, Wed Nov 11 2026. No macro, syntax, notation, axiom, sorry.
-/
import Derived.Test.YbulkcgwaFmtRows
import GoSem.ClaimSeven
namespace Go.Proofs.YbulkcgwaFmt
namespace Rows

/-- THE TOLD CARD OF 'suci.LawS4147CModel'. -/
def lawS4147CModelCard : Claim7 := { stood := { row := lawS4147CModelRow, standIns := [], harness := (true, "25da002d4edfe54d2f40416e9531965589183f11d897521297d591ba73028bc2"), looks := false }, told := true, goes := false }
def LawS4147CModelToldSaid : Prop := Claim7.holds Ybaf.pinned (.plain (OpenSpec.ofChange lawS4147CModelSpec)) lawS4147CModelCard
/-- ITS FALSE NEIGHBOUR. Refute it at one input. -/
def LawS4147CModelToldWrongFalsely : Prop := Claim7.holds Ybaf.pinned (.plain (OpenSpec.ofChange lawS4147CModelWrong)) lawS4147CModelCard

/-- THE TOLD CARD OF 'suci.LawS4147CBuilt'. -/
def lawS4147CBuiltCard : Claim7 := { stood := { row := lawS4147CBuiltRow, standIns := [], harness := (true, "25da002d4edfe54d2f40416e9531965589183f11d897521297d591ba73028bc2"), looks := false }, told := true, goes := false }
def LawS4147CBuiltToldSaid : Prop := Claim7.holds Ybaf.pinned (.plain (OpenSpec.ofChange lawS4147CBuiltSpec)) lawS4147CBuiltCard
/-- ITS FALSE NEIGHBOUR. Refute it at one input. -/
def LawS4147CBuiltToldWrongFalsely : Prop := Claim7.holds Ybaf.pinned (.plain (OpenSpec.ofChange lawS4147CBuiltWrong)) lawS4147CBuiltCard
end Rows
end Go.Proofs.YbulkcgwaFmt
