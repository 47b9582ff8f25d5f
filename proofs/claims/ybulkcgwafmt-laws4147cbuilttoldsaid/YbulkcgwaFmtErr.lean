import Derived.Test.YbulkcgwaFmtRows
import Derived.WalkKit
import Derived.WalkSpells
import Derived.WalkLawsBesides
import Derived.ProofKit
import Derived.OpenShut
import Derived.ShutString
import Derived.Below
import Derived.Stop.CallBack
import Derived.Stop.IfaceNil
import GoSem.ClaimData
/-! The closed facts for a walk over fmt's stopped front, and what fmt.Errorf (function 9) leaves: an error that is not nil. -/
namespace Go.Proofs.YbulkcgwaFmt
open Go.RowKit Go.Extern.Stop Go.Stop Go.Extern

@[go_sem] theorem Ybaf.call12 (args : Array Value) (w : World) : (callFunc 12 args).run Ybaf.prog w = ((FmtStop.errorf #[9, 37] #[28] args).run Ybaf.prog w).andThen fun v w' => .ok (.value v) w' :=
  run_callFunc_extern Ybaf.func12 (by kernel_rfl) (by kernel_rfl) (by kernel_rfl) (by kernel_rfl) args w
@[go_sem] theorem Ybaf.guard (name : String) (w : World) : (FmtStop.guard name).run Ybaf.prog w = .ok () w := by kernel_rfl

def Ybaf.shape9 : List UInt8 := [12, 6, 0, 0, 0, 0, 0, 0, 0, 115, 116, 114, 105, 110, 103]
@[go_sem] theorem Ybaf.op9_113w (name : String) (x : ByteArray) (w : World) : (FmtStop.operand name true 113 false (.iface 9 (.string x))).run Ybaf.prog w = .ok (Ybaf.shape9, FmtStop.pack x.data.toList) w := by kernel_rfl
def Ybaf.shape3 : List UInt8 := [5, 3, 0, 0, 0, 0, 0, 0, 0, 105, 110, 116]
@[go_sem] theorem Ybaf.op3_100w (name : String) (x : Int) (w : World) : (FmtStop.operand name true 100 false (.iface 3 (.int .i64 x))).run Ybaf.prog w = .ok (Ybaf.shape3, digits 8 (x % 2 ^ 64).toNat) w := by kernel_rfl

@[go_sem] theorem Ybaf.ptr44 (w : World) : (FmtStop.ptrTo "errors.errorString").run Ybaf.prog w = .ok 44 w := by kernel_rfl
@[go_sem] theorem Ybaf.elem44 (w : World) : (elemOf 44).run Ybaf.prog w = .ok 46 w := by kernel_rfl
@[go_sem] theorem Ybaf.isError44' (w : World) : (FmtDoors.textMethod 44 "Error").run Ybaf.prog w = .ok true w := by kernel_rfl

theorem errorf_two (F : Interp) (fm : ByteArray) (s : ByteArray) (n : Int) (blk : Nat) (w : World) (hF : F.answers w.tape)
    (hfm : ∀ w, (FmtDoors.printed fm 2).run Ybaf.prog w = .ok [(0, 113, false), (1, 100, false)] w)
    (hc0 : w.cell? ⟨blk, 0, none⟩ = some (.iface 9 (.string s))) (hc1 : w.cell? ⟨blk, 1, none⟩ = some (.iface 3 (.int .i64 n))) :
    Calls Ybaf.prog 9 #[.string fm, .slice (some ⟨blk, 0, none⟩) 2 2] w fun e w' =>
      e = .returned (.iface 44 (.pointer (some ⟨w.heap.size, 0, none⟩))) ∧ Below w.heap.size w w' := by
  have hF' := answers_open hF
  go_enter Ybaf.func9, Ybaf.ntmps9
  go_wp2
  go_ret
  exact ⟨rfl, ((Below.refl _ _).alloc (Nat.le_refl _) _).drew⟩

theorem errorf_three (F : Interp) (fm : ByteArray) (s : ByteArray) (n m : Int) (blk : Nat) (w : World) (hF : F.answers w.tape)
    (hfm : ∀ w, (FmtDoors.printed fm 3).run Ybaf.prog w = .ok [(0, 113, false), (1, 100, false), (2, 100, false)] w)
    (hc0 : w.cell? ⟨blk, 0, none⟩ = some (.iface 9 (.string s))) (hc1 : w.cell? ⟨blk, 1, none⟩ = some (.iface 3 (.int .i64 n))) (hc2 : w.cell? ⟨blk, 2, none⟩ = some (.iface 3 (.int .i64 m))) :
    Calls Ybaf.prog 9 #[.string fm, .slice (some ⟨blk, 0, none⟩) 3 3] w fun e w' =>
      e = .returned (.iface 44 (.pointer (some ⟨w.heap.size, 0, none⟩))) ∧ Below w.heap.size w w' := by
  have hF' := answers_open hF
  go_enter Ybaf.func9, Ybaf.ntmps9
  go_wp2
  go_ret
  exact ⟨rfl, ((Below.refl _ _).alloc (Nat.le_refl _) _).drew⟩

theorem errorf_four (F : Interp) (fm : ByteArray) (n m k l : Int) (blk : Nat) (w : World) (hF : F.answers w.tape)
    (hfm : ∀ w, (FmtDoors.printed fm 4).run Ybaf.prog w = .ok [(0, 100, false), (1, 100, false), (2, 100, false), (3, 100, false)] w)
    (hc0 : w.cell? ⟨blk, 0, none⟩ = some (.iface 3 (.int .i64 n))) (hc1 : w.cell? ⟨blk, 1, none⟩ = some (.iface 3 (.int .i64 m))) (hc2 : w.cell? ⟨blk, 2, none⟩ = some (.iface 3 (.int .i64 k))) (hc3 : w.cell? ⟨blk, 3, none⟩ = some (.iface 3 (.int .i64 l))) :
    Calls Ybaf.prog 9 #[.string fm, .slice (some ⟨blk, 0, none⟩) 4 4] w fun e w' =>
      e = .returned (.iface 44 (.pointer (some ⟨w.heap.size, 0, none⟩))) ∧ Below w.heap.size w w' := by
  have hF' := answers_open hF
  go_enter Ybaf.func9, Ybaf.ntmps9
  go_wp2
  go_ret
  exact ⟨rfl, ((Below.refl _ _).alloc (Nat.le_refl _) _).drew⟩

end Go.Proofs.YbulkcgwaFmt
