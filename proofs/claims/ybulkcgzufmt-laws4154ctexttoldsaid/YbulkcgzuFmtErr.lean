import Derived.Test.YbulkcgzuFmtKit
import Derived.Stop.CallBack
import Derived.Stop.IfaceNil
import GoSem.ClaimData
/-! The closed facts for a walk over fmt's stopped front, and what fmt.Errorf (function 21) and Row.Errorf (function 24) leave: an error that is not nil. -/
namespace Go.Proofs.YbulkcgzuFmt
open Go.RowKit Go.Extern.Stop Go.Stop Go.Extern

@[go_sem] theorem Ybaf.call32 (args : Array Value) (w : World) : (callFunc 32 args).run Ybaf.prog w = ((FmtStop.errorf #[9, 73] #[43] args).run Ybaf.prog w).andThen fun v w' => .ok (.value v) w' :=
  run_callFunc_extern Ybaf.func32 (by kernel_rfl) (by kernel_rfl) (by kernel_rfl) (by kernel_rfl) args w
@[go_sem] theorem Ybaf.guard (name : String) (w : World) : (FmtStop.guard name).run Ybaf.prog w = .ok () w := by kernel_rfl

def Ybaf.shape9 : List UInt8 := [12, 6, 0, 0, 0, 0, 0, 0, 0, 115, 116, 114, 105, 110, 103]
@[go_sem] theorem Ybaf.op9_115w (name : String) (x : ByteArray) (w : World) : (FmtStop.operand name true 115 false (.iface 9 (.string x))).run Ybaf.prog w = .ok (Ybaf.shape9, FmtStop.pack x.data.toList) w := by kernel_rfl
def Ybaf.shape3 : List UInt8 := [5, 3, 0, 0, 0, 0, 0, 0, 0, 105, 110, 116]
@[go_sem] theorem Ybaf.op3_100w (name : String) (x : Int) (w : World) : (FmtStop.operand name true 100 false (.iface 3 (.int .i64 x))).run Ybaf.prog w = .ok (Ybaf.shape3, digits 8 (x % 2 ^ 64).toNat) w := by kernel_rfl

@[go_sem] theorem Ybaf.ptr78 (w : World) : (FmtStop.ptrTo "errors.errorString").run Ybaf.prog w = .ok 78 w := by kernel_rfl
@[go_sem] theorem Ybaf.elem78 (w : World) : (elemOf 78).run Ybaf.prog w = .ok 80 w := by kernel_rfl
@[go_sem] theorem Ybaf.isError78' (w : World) : (FmtDoors.textMethod 78 "Error").run Ybaf.prog w = .ok true w := by kernel_rfl
@[go_sem] theorem Ybaf.ptr75 (w : World) : (FmtStop.ptrTo "fmt.wrapError").run Ybaf.prog w = .ok 75 w := by kernel_rfl
@[go_sem] theorem Ybaf.elem75 (w : World) : (elemOf 75).run Ybaf.prog w = .ok 98 w := by kernel_rfl
def Ybaf.name78 : String := String.singleton (Char.ofNat 42) ++ "errors.errorString"
def Ybaf.plain78 : List UInt8 := 14 :: FmtStop.pack Ybaf.name78.toUTF8.data.toList
theorem Ybaf.opPlain78_119w (name : String) (a : Addr) (s : ByteArray) (w : World) (hc : w.cell? a = some (.string s)) :
    (FmtStop.operand name true 119 false (.iface 78 (.pointer (some a)))).run Ybaf.prog w = .ok (Ybaf.plain78, s.data.toList) w := by
  have h1 : (typeStr 78).run Ybaf.prog w = .ok Ybaf.name78 w := by kernel_rfl
  have d2 : Ybaf.t78.desc = .pointer 80 := rfl
  have d3 : Ybaf.t80.desc = .named "errors.errorString" 79 := rfl
  simp [FmtStop.operand, h1, d2, d3, run_load, hc, Ybaf.plain78]

/-- two operands: an int, a string -/
theorem errorf_two (F : Interp) (fm : ByteArray) (s : ByteArray) (n : Int) (blk : Nat) (w : World) (hF : F.answers w.tape)
    (hfm : ∀ w, (FmtDoors.printed fm 2).run Ybaf.prog w = .ok [(0, 100, false), (1, 115, false)] w)
    (hc0 : w.cell? ⟨blk, 0, none⟩ = some (.iface 3 (.int .i64 n))) (hc1 : w.cell? ⟨blk, 1, none⟩ = some (.iface 9 (.string s))) :
    Calls Ybaf.prog 21 #[.string fm, .slice (some ⟨blk, 0, none⟩) 2 2] w fun e w' =>
      e = .returned (.iface 78 (.pointer (some ⟨w.heap.size, 0, none⟩))) ∧ Below w.heap.size w w' := by
  have hF' := answers_open hF
  go_enter Ybaf.func21, Ybaf.ntmps21
  go_wp2
  go_ret
  exact ⟨rfl, ((Below.refl _ _).alloc (Nat.le_refl _) _).drew⟩

/-- no operand, no verb: errors.New -/
theorem errorf_none (w : World) :
    Calls Ybaf.prog 21 #[.string ⟨#[116, 104, 101, 32, 99, 101, 108, 108, 32, 105, 115, 32, 101, 109, 112, 116, 121]⟩, .slice none 0 0] w fun e w' =>
      e = .returned (.iface 78 (.pointer (some ⟨w.heap.size, 0, none⟩))) ∧ w' = w.alloc (.cells #[.string ⟨#[116, 104, 101, 32, 99, 101, 108, 108, 32, 105, 115, 32, 101, 109, 112, 116, 121]⟩] 80) := by
  go_enter Ybaf.func21, Ybaf.ntmps21
  go_wp2
  go_ret
  exact ⟨rfl, rfl⟩

/-- three operands: an int, a string, an error that errors.New made -/
theorem errorf_wrap (F : Interp) (fm : ByteArray) (s t : ByteArray) (n : Int) (blk eb : Nat) (w : World) (hF : F.answers w.tape)
    (hfm : ∀ w, (FmtDoors.printed fm 3).run Ybaf.prog w = .ok [(0, 100, false), (1, 115, false), (2, 119, false)] w)
    (hc0 : w.cell? ⟨blk, 0, none⟩ = some (.iface 3 (.int .i64 n))) (hc1 : w.cell? ⟨blk, 1, none⟩ = some (.iface 9 (.string s))) (hc2 : w.cell? ⟨blk, 2, none⟩ = some (.iface 78 (.pointer (some ⟨eb, 0, none⟩))))
    (hs : w.cell? ⟨eb, 0, none⟩ = some (.string t)) :
    Calls Ybaf.prog 21 #[.string fm, .slice (some ⟨blk, 0, none⟩) 3 3] w fun e w' =>
      e = .returned (.iface 75 (.pointer (some ⟨w.heap.size, 0, none⟩))) ∧ Below w.heap.size w w' := by
  have hF' := answers_open hF
  have hop := Ybaf.opPlain78_119w "fmt.errorf" ⟨eb, 0, none⟩ t w hs
  go_enter Ybaf.func21, Ybaf.ntmps21
  go_wp2
  go_ret
  exact ⟨rfl, ((Below.refl _ _).alloc (Nat.le_refl _) _).drew⟩

theorem cells3 (w : World) (o1 : Obj) (t x y z : Value) (W : World) (hW : W = ((w.alloc o1).alloc (.cells #[t] 80)).alloc (.cells #[x, y, z] 20)) :
    W.cell? ⟨w.heap.size + 1 + 1, 0, none⟩ = some x ∧ W.cell? ⟨w.heap.size + 1 + 1, 1, none⟩ = some y ∧ W.cell? ⟨w.heap.size + 1 + 1, 2, none⟩ = some z ∧ W.cell? ⟨w.heap.size + 1, 0, none⟩ = some t := by
  have h1 := Blk.new ((w.alloc o1).alloc (.cells #[t] 80)) [x, y, z] 20
  have h2 := (Blk.new (w.alloc o1) [t] 80).alloc (.cells #[x, y, z] 20)
  rw [show ((w.alloc o1).alloc (.cells #[t] 80)).heap.size = w.heap.size + 1 + 1 from by simp] at h1
  rw [show (w.alloc o1).heap.size = w.heap.size + 1 from by simp] at h2
  subst hW
  exact ⟨h1.cell 0, h1.cell 1, h1.cell 2, h2.cell 0⟩

theorem below3 {w W w2 : World} (o1 o2 o3 : Obj) (hW : W = (((w.alloc o1).alloc o2).alloc o3).drew) (h : Below W.heap.size W w2) : Below w.heap.size w w2 := by
  subst hW
  have h1 : Below w.heap.size w (((w.alloc o1).alloc o2).alloc o3).drew := ((((Below.refl _ _).alloc (Nat.le_refl _) _).alloc (by simp) _).alloc (by simp; omega) _).drew
  exact h1.trans (h.mono (by simp; omega))

set_option maxRecDepth 100000 in
set_option maxHeartbeats 400000 in
/-- Row.Errorf of an empty cell -/
theorem row_errorf (F : Interp) (line idx : Int) (bk : Option Addr) (s fe : ByteArray) (w : World) (hF : F.answers w.tape)
    (hfe : ∀ w, Calls Ybaf.prog 21 #[.string fe, .slice none 0 0] w fun e w' => e = .returned (.iface 78 (.pointer (some ⟨w.heap.size, 0, none⟩))) ∧ w' = w.alloc (.cells #[.string fe] 80)) :
    Calls Ybaf.prog 24 #[.agg #[.int .i64 line, .pointer bk, .int .i64 idx], .string s, .string fe, .slice none 0 0] w fun e w' =>
      (∃ a, e = .returned (.iface 75 (.pointer (some a)))) ∧ Below w.heap.size w w' := by
  have HFE : Hid (∀ w, Calls Ybaf.prog 21 #[.string fe, .slice none 0 0] w fun e w' => e = .returned (.iface 78 (.pointer (some ⟨w.heap.size, 0, none⟩))) ∧ w' = w.alloc (.cells #[.string fe] 80)) := hfe
  clear hfe
  go_enter Ybaf.func24, Ybaf.ntmps24
  go_wp2_with fail
  go_region_with (first
    | (go_at_call 21; with_reducible refine (HFE.out _).mono ?_; rintro e w' ⟨rfl, rfl⟩)
    | (go_at_call 21; refine (errorf_wrap F _ s fe line (w.heap.size + 1 + 1) (w.heap.size + 1) _ (by exact hF) (fun w => by kernel_rfl) (by exact (cells3 w _ _ _ _ _ _ rfl).1) (by exact (cells3 w _ _ _ _ _ _ rfl).2.1) (by exact (cells3 w _ _ _ _ _ _ rfl).2.2.1) (by exact (cells3 w _ _ _ _ _ _ rfl).2.2.2)).mono ?_; rintro e w2 ⟨rfl, hb2⟩))
  all_goals (go_wp2_with fail; go_ret; exact ⟨⟨_, rfl⟩, below3 _ _ _ rfl hb2⟩)
end Go.Proofs.YbulkcgzuFmt
