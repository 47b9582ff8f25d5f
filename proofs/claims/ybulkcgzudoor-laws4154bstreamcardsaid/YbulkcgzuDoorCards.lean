/-
  DERIVED. GIVEN WITH THE SEED: THE CARDS: each row of YbulkcgzuDoorRows.lean that lists a variable, with what it lists TIED to the program's text (the seventh form; the later family's looks); each row that meets fmt, with fmt's text TOLD by the authors' own Lean function (tested against real Go, not proved from fmt's source: count such statements apart). THE CARD IS WHAT COUNTS. Prove the row's statement (the work); the ties are given (YbulkcgzuDoorTie.lean); close each card by the builder's one call (the guide's Derived/Test/ToyasCard.lean, 'card_holds'). Laid BY PROGRAM, IN A SANDBOX (cutbox-door.mjs). By AI agents, Wed Nov 11 2026. No macro, syntax, notation, axiom, sorry.
-/
import Derived.Test.YbulkcgzuDoorRows
import GoSem.ClaimSeven
namespace Go.Proofs.YbulkcgzuDoor
namespace Rows

/-- THE TIED CARD OF 'bom.LawS4154BStream'. -/
def lawS4154BStreamCard : Claim7 := { stood := { row := lawS4154BStreamRow, standIns := [], harness := (true, "f85fee93d0171ccb7cceb847ed111721f7ff77b500feb1439c6222bfae9156eb"), looks := true }, kinds := [], alts := [], laidByText := true, laidKinds := [.sentinel, .sentinel, .sentinel], laidTests := true, laidLooks := .later }
def LawS4154BStreamCardSaid : Prop := Claim7.holds Ybad.pinned (.plain (OpenSpec.ofChange lawS4154BStreamSpec)) lawS4154BStreamCard
end Rows
end Go.Proofs.YbulkcgzuDoor
