/-
  DERIVED. GIVEN WITH THE SEED: THE CARDS: each row of YbulkcgzuFmtRows.lean that lists a variable, with what it lists TIED to the program's text (the seventh form; the later family's looks); each row that meets fmt, with fmt's text TOLD by the authors' own Lean function (tested against real Go, not proved from fmt's source: count such statements apart). THE CARD IS WHAT COUNTS. Prove the row's statement (the work); the ties are given (YbulkcgzuFmtTie.lean); close each card by the builder's one call (the guide's Derived/Test/ToyasCard.lean, 'card_holds'). Laid BY PROGRAM, IN A SANDBOX (cutbox-door.mjs). By AI agents, Wed Nov 11 2026. No macro, syntax, notation, axiom, sorry.
-/
import Derived.Test.YbulkcgzuFmtRows
import GoSem.ClaimSeven
namespace Go.Proofs.YbulkcgzuFmt
namespace Rows

/-- THE TOLD AND TIED CARD OF 'clip.LawS4154AShort'. -/
def lawS4154AShortCard : Claim7 := { stood := { row := lawS4154AShortRow, standIns := [], harness := (true, "156abac5c6edf8546b75041ce72d344efac6b07bd6064d188db9ef005032f208"), looks := false }, told := true, laidByText := true, laidKinds := [.data, .pinned, .pinned, .pinned, .pinned, .pinned, .pinned], laidTests := true, laidLooks := .later, goes := false }
def LawS4154AShortToldSaid : Prop := Claim7.holds Ybaf.pinned (.plain (OpenSpec.ofChange lawS4154AShortSpec)) lawS4154AShortCard
/-- ITS FALSE NEIGHBOUR. Refute it at one input. -/
def LawS4154AShortToldWrongFalsely : Prop := Claim7.holds Ybaf.pinned (.plain (OpenSpec.ofChange lawS4154AShortWrong)) lawS4154AShortCard

/-- THE TOLD AND TIED CARD OF 'clip.LawS4154ALong'. -/
def lawS4154ALongCard : Claim7 := { stood := { row := lawS4154ALongRow, standIns := [], harness := (true, "156abac5c6edf8546b75041ce72d344efac6b07bd6064d188db9ef005032f208"), looks := false }, told := true, laidByText := true, laidKinds := [.data, .pinned, .pinned, .pinned, .pinned, .pinned, .pinned], laidTests := true, laidLooks := .later, goes := false }
def LawS4154ALongToldSaid : Prop := Claim7.holds Ybaf.pinned (.plain (OpenSpec.ofChange lawS4154ALongSpec)) lawS4154ALongCard
/-- ITS FALSE NEIGHBOUR. Refute it at one input. -/
def LawS4154ALongToldWrongFalsely : Prop := Claim7.holds Ybaf.pinned (.plain (OpenSpec.ofChange lawS4154ALongWrong)) lawS4154ALongCard

/-- THE TOLD CARD OF 'dealfile.LawS4154CText'. -/
def lawS4154CTextCard : Claim7 := { stood := { row := lawS4154CTextRow, standIns := [], harness := (true, "156abac5c6edf8546b75041ce72d344efac6b07bd6064d188db9ef005032f208"), looks := false }, told := true, goes := false }
def LawS4154CTextToldSaid : Prop := Claim7.holds Ybaf.pinned (.plain (OpenSpec.ofChange lawS4154CTextSpec)) lawS4154CTextCard
/-- ITS FALSE NEIGHBOUR. Refute it at one input. -/
def LawS4154CTextToldWrongFalsely : Prop := Claim7.holds Ybaf.pinned (.plain (OpenSpec.ofChange lawS4154CTextWrong)) lawS4154CTextCard
end Rows
end Go.Proofs.YbulkcgzuFmt
