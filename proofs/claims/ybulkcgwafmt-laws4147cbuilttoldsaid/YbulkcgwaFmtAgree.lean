import Derived.Test.YbulkcgwaFmtParse
import Derived.Test.YbulkcgwaFmtModel
/-! The contract of 'zzs4147ccheck' (function 5): it answers true. -/
namespace Go.Proofs.YbulkcgwaFmt
open Go.RowKit Go.Extern.Stop Go.Stop Go.Extern

def ParseNo (s : ByteArray) (m : Int) : Prop := ∀ (F : Interp) (w : World), F.answers w.tape →
  Calls Ybaf.prog 6 #[.string s, .int .i64 m] w fun e w' => ∃ a, e = .returned (.tuple #[.agg #[.string ⟨#[]⟩, .string ⟨#[]⟩, .string ⟨#[]⟩], .iface 44 (.pointer (some a))]) ∧ Below w.heap.size w w'
def ParseYes (s : ByteArray) (m : Int) (x y z : ByteArray) : Prop := ∀ w : World,
  Calls Ybaf.prog 6 #[.string s, .int .i64 m] w fun e w' => e = .returned (.tuple #[.agg #[.string x, .string y, .string z], .nilIface]) ∧ Below w.heap.size w w'
def ModelYes (s : ByteArray) (m : Int) (x y z : ByteArray) : Prop := ∀ w : World,
  Calls Ybaf.prog 7 #[.string s, .int .i64 m] w fun e w' => e = .returned (.tuple #[.agg #[.string x, .string y, .string z], .bool true]) ∧ Below w.heap.size w w'

theorem own3 {w w2 : World} {a b c : Value} (hb : Below (w.alloc (.cells #[a, b, c] 26)).heap.size (w.alloc (.cells #[a, b, c] 26)) w2) :
    w2.cell? ⟨w.heap.size, 0, none⟩ = some a ∧ w2.cell? ⟨w.heap.size, 1, none⟩ = some b ∧ w2.cell? ⟨w.heap.size, 2, none⟩ = some c := by
  have hz : w.heap.size < (w.alloc (.cells #[a, b, c] 26)).heap.size := by simp
  refine ⟨?_, ?_, ?_⟩
  · rw [hb.cell (by exact hz)]; simp
  · rw [hb.cell (by exact hz)]; simp
  · rw [hb.cell (by exact hz)]; simp

set_option maxRecDepth 100000 in
set_option maxHeartbeats 400000 in
theorem agree_no (F : Interp) (s : ByteArray) (m : Int) (w : World) (hF : F.answers w.tape) (hP : ParseNo s m) (hM : Refuses s m) :
    Calls Ybaf.prog 5 #[.string s, .int .i64 m] w fun e w' => e = .returned (.bool true) ∧ Below w.heap.size w w' := by
  go_enter Ybaf.func5, Ybaf.ntmps5
  go_wp2_with fail
  refine (hP F _ (by exact hF)).mono ?_
  rintro e w1 ⟨a, rfl, hb1⟩
  go_wp2_with fail
  refine (hM _).mono ?_
  rintro e w2 ⟨rfl, hb2⟩
  obtain ⟨c0, c1, c2⟩ := own3 hb2
  have hz : w1.heap.size < w2.heap.size := by have := hb2.size; simp at this; omega
  have HB : Hid (Below w.heap.size w w2) := (hb1.alloc hb1.size _).trans (hb2.mono (by have := hb1.size; simp; omega))
  clear hb1 hb2
  go_wp2_with fail
  go_ret
  exact ⟨rfl, HB.out.alloc HB.out.size _⟩

set_option maxRecDepth 100000 in
set_option maxHeartbeats 400000 in
theorem agree_yes (s x y z : ByteArray) (m : Int) (w : World) (hP : ParseYes s m x y z) (hM : ModelYes s m x y z) (hx : x.size ≤ 1024) (hy : y.size ≤ 1024) (hz : z.size ≤ 1024) (hs : (⟨#[105, 109, 115, 105, 45]⟩ : ByteArray) ++ x ++ y ++ z = s) :
    Calls Ybaf.prog 5 #[.string s, .int .i64 m] w fun e w' => e = .returned (.bool true) ∧ Below w.heap.size w w' := by
  go_enter Ybaf.func5, Ybaf.ntmps5
  go_wp2_with fail
  refine (hP _).mono ?_
  rintro e w1 ⟨rfl, hb1⟩
  go_wp2_with fail
  refine (hM _).mono ?_
  rintro e w2 ⟨rfl, hb2⟩
  obtain ⟨c0, c1, c2⟩ := own3 hb2
  have hz : w1.heap.size < w2.heap.size := by have := hb2.size; simp at this; omega
  have HB : Hid (Below w.heap.size w w2) := (hb1.alloc hb1.size _).trans (hb2.mono (by have := hb1.size; simp; omega))
  clear hb1 hb2
  go_wp2_with fail
  go_ret
  exact ⟨rfl, HB.out.alloc HB.out.size _⟩
end Go.Proofs.YbulkcgwaFmt
