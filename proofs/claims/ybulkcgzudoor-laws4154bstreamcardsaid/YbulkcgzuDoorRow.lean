import Derived.Test.YbulkcgzuDoorPrep
import Derived.ProofKit
import Derived.LaidMore
import Derived.OpenShut
import Derived.ChangeOld
import Derived.Stop.Joined
import Derived.Stop.LaidTwo
/-! The row of 'bom.LawS4154BStream': the closed facts on the three sentinels, and what 'laid' gives the walk. -/
namespace Go.Proofs.YbulkcgzuDoor
open Go.ChangeShapes Go.WideShapes Go.ChangeAt Go.RowKit

theorem own : ownKnob Ybad.prog.godebug = none := by kernel_rfl
theorem laidOut : laidOutB Ybad.prog = true := by kernel_rfl
theorem gEOF : Ybad.prog.globalNamed "io.EOF" = some 0 := by kernel_rfl
theorem gUEOF : Ybad.prog.globalNamed "io.ErrUnexpectedEOF" = some 1 := by kernel_rfl
theorem tEOF : (Ybad.prog.globals[0]?).map (·.type) = some 24 := by kernel_rfl
theorem tUEOF : (Ybad.prog.globals[1]?).map (·.type) = some 24 := by kernel_rfl
theorem Ybad.cells40 : Ybad.prog.cellsOf 40 = 1 := by kernel_rfl
theorem Ybad.cells9 : Ybad.prog.cellsOf 9 = 1 := by kernel_rfl
theorem Ybad.cells5 : Ybad.prog.cellsOf 5 = 1 := by kernel_rfl

/-- the dynamic type's name, off a listed datum -/
def nameOf : DataW Unit → String
  | .iface n _ => n
  | _ => ""

theorem row38 (u : TypeId) (h : Ybad.prog.typeName? 3 u = some (nameOf Rows.laid_io_EOF)) : u = 38 := by
  refine typeName_ptr_named (nm := "errors.errorString") ?_ (by kernel_rfl) (by decide) u (h.trans ?_)
  · kernel_rfl
  · exact congrArg some (by decide)

/-- The door's own heap meets the condition. -/
theorem door_met (os : Os) (args : Array Value) : laidMetH Ybad.prog Rows.lawS4154BStreamRow.laid ((World.doorLaid Ybad.prog 400 os).forCall (fun _ _ => 0) ⟨#[], args, []⟩).memory :=
  laidMetH_of_parts3 (fuel := 8) (laidMet_of_run' 8 (by kernel_rfl) (by kernel_rfl)) (by kernel_rfl) (by kernel_rfl)

/-- WHAT THE CONDITION GIVES THE WALK. -/
theorem of_laid {W : World} (h : laidMetH Ybad.prog Rows.lawS4154BStreamRow.laid W) : ∃ aE aU : Addr, W.cell? ⟨0, 0, none⟩ = some (err aE) ∧ W.cell? ⟨1, 0, none⟩ = some (err aU) ∧ aE ≠ aU ∧
    (∃ c t, W.heap[aE.block]? = some (.cells c t (0, 0))) ∧ (∃ c t, W.heap[aU.block]? = some (.cells c t (0, 0))) := by
  rw [MakeChecks.laidMetH_plain _ _ _ (by kernel_rfl)] at h
  have h' : laidMet Ybad.prog (("io.ErrShortBuffer", Rows.laid_io_ErrShortBuffer) :: ("io.EOF", Rows.laid_io_EOF) :: ("io.ErrUnexpectedEOF", Rows.laid_io_ErrUnexpectedEOF) :: []) W := h
  obtain ⟨a0, a1, s0, s1, c0, c1, t0, t1, hv0, hv1, _, _, _, _, _, _, hne, hb0, hb1⟩ := laid_sentinels2 h'.tail gEOF tEOF gUEOF tUEOF Ybad.underlying24 row38 Ybad.underlying38 Ybad.underlying40 rfl rfl Ybad.underlying9 Ybad.cells40 Ybad.cells9
  refine ⟨a0, a1, ?_, ?_, hne, ⟨c0, t0, hb0⟩, ⟨c1, t1, hb1⟩⟩
  · simpa using World.var?_cell gEOF hv0 0
  · simpa using World.var?_cell gUEOF hv1 0
end Go.Proofs.YbulkcgzuDoor
