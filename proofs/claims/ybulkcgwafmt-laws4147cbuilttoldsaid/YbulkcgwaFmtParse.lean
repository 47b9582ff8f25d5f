import Derived.Test.YbulkcgwaFmtMsin
import Derived.Test.YbulkcgwaFmtCut
/-! The contract of 'ParseSUPI' (function 6). -/
namespace Go.Proofs.YbulkcgwaFmt
open Go.RowKit Go.Extern.Stop Go.Stop Go.Extern

def CutsTo (s d : ByteArray) (ok : Bool) : Prop := ∀ w : World,
  Calls Ybaf.prog 8 #[.string s, .string ⟨#[105, 109, 115, 105, 45]⟩] w fun e w' => e = .returned (.tuple #[.string d, .bool ok]) ∧ w' = w

/-- what lies in the result's own block behind a call that left all old blocks as they were -/
theorem cells3 {w w2 : World} {a b c : Value} {o : Obj} (hb : Below ((w.alloc (.cells #[a, b, c] 26)).alloc o).heap.size ((w.alloc (.cells #[a, b, c] 26)).alloc o) w2) :
    w2.cell? ⟨w.heap.size, 0, none⟩ = some a ∧ w2.cell? ⟨w.heap.size, 1, none⟩ = some b ∧ w2.cell? ⟨w.heap.size, 2, none⟩ = some c ∧
    w2.frozen? ⟨w.heap.size, 0, none⟩ = false ∧ w2.frozen? ⟨w.heap.size, 1, none⟩ = false ∧ w2.frozen? ⟨w.heap.size, 2, none⟩ = false := by
  have hz : w.heap.size < ((w.alloc (.cells #[a, b, c] 26)).alloc o).heap.size := by simp; omega
  refine ⟨?_, ?_, ?_, ?_, ?_, ?_⟩
  · rw [hb.cell (by exact hz)]; simp
  · rw [hb.cell (by exact hz)]; simp
  · rw [hb.cell (by exact hz)]; simp
  · rw [hb.frozen (by exact hz)]; simp
  · rw [hb.frozen (by exact hz)]; simp
  · rw [hb.frozen (by exact hz)]; simp

theorem cells3' {w w2 : World} {a b c : Value} {o : Obj} (hb : Below ((w.alloc o).alloc (.cells #[a, b, c] 26)).heap.size ((w.alloc o).alloc (.cells #[a, b, c] 26)) w2) :
    w2.cell? ⟨w.heap.size + 1, 0, none⟩ = some a ∧ w2.cell? ⟨w.heap.size + 1, 1, none⟩ = some b ∧ w2.cell? ⟨w.heap.size + 1, 2, none⟩ = some c := by
  have hz : w.heap.size + 1 < ((w.alloc o).alloc (.cells #[a, b, c] 26)).heap.size := by simp
  refine ⟨?_, ?_, ?_⟩
  · rw [hb.cell (by exact hz)]; simp
  · rw [hb.cell (by exact hz)]; simp
  · rw [hb.cell (by exact hz)]; simp

set_option maxRecDepth 100000 in
set_option maxHeartbeats 400000 in
theorem parse_nofix (F : Interp) (s d : ByteArray) (m : Int) (w : World) (hF : F.answers w.tape) (hc : CutsTo s d false) :
    Calls Ybaf.prog 6 #[.string s, .int .i64 m] w fun e w' => ∃ a, e = .returned (.tuple #[.agg #[.string ⟨#[]⟩, .string ⟨#[]⟩, .string ⟨#[]⟩], .iface 44 (.pointer (some a))]) ∧ Below w.heap.size w w' := by
  go_enter Ybaf.func6, Ybaf.ntmps6
  go_wp2_with fail
  refine (hc _).mono ?_
  rintro e w' ⟨rfl, rfl⟩
  go_wp2_with fail
  refine (errorf_two F _ s m (w.heap.size + 1) _ (by exact hF) (fun w => by kernel_rfl) (by simp) (by simp)).mono ?_
  rintro e w2 ⟨rfl, hb⟩
  obtain ⟨c0, c1, c2, f0, f1, f2⟩ := cells3 hb
  have hz : w.heap.size < w2.heap.size := by have := hb.size; simp at this; omega
  have HB : Hid (Below w.heap.size w w2) := (((Below.refl w.heap.size w).alloc (Nat.le_refl _) _).alloc (by simp) _).trans (hb.mono (by simp; omega))
  go_wp2_with fail
  refine bodyPost_ret (v := .tuple #[.agg #[.string ⟨#[]⟩, .string ⟨#[]⟩, .string ⟨#[]⟩], .iface 44 (.pointer (some ⟨w.heap.size + 1 + 1, 0, none⟩))]) (by simp [results, Ybaf.results6, go_sem, c0, c1, c2]) rfl ⟨_, rfl, ?_⟩
  exact ((HB.out.setCell (Nat.le_refl _) _).setCell (Nat.le_refl _) _).setCell (Nat.le_refl _) _
set_option maxRecDepth 100000 in
set_option maxHeartbeats 400000 in
theorem parse_small (F : Interp) (s d : ByteArray) (m : Int) (w : World) (hF : F.answers w.tape) (hc : CutsTo s d true) (hm : m < 2) :
    Calls Ybaf.prog 6 #[.string s, .int .i64 m] w fun e w' => ∃ a, e = .returned (.tuple #[.agg #[.string ⟨#[]⟩, .string ⟨#[]⟩, .string ⟨#[]⟩], .iface 44 (.pointer (some a))]) ∧ Below w.heap.size w w' := by
  go_enter Ybaf.func6, Ybaf.ntmps6
  go_wp2_with fail
  refine (hc _).mono ?_
  rintro e w' ⟨rfl, rfl⟩
  go_wp2_with fail
  refine (errorf_two F _ s m (w.heap.size + 1) _ (by exact hF) (fun w => by kernel_rfl) (by simp) (by simp)).mono ?_
  rintro e w2 ⟨rfl, hb⟩
  obtain ⟨c0, c1, c2, f0, f1, f2⟩ := cells3 hb
  have hz : w.heap.size < w2.heap.size := by have := hb.size; simp at this; omega
  have HB : Hid (Below w.heap.size w w2) := (((Below.refl w.heap.size w).alloc (Nat.le_refl _) _).alloc (by simp) _).trans (hb.mono (by simp; omega))
  go_wp2_with fail
  refine bodyPost_ret (v := .tuple #[.agg #[.string ⟨#[]⟩, .string ⟨#[]⟩, .string ⟨#[]⟩], .iface 44 (.pointer (some ⟨w.heap.size + 1 + 1, 0, none⟩))]) (by simp [results, Ybaf.results6, go_sem, c0, c1, c2]) rfl ⟨_, rfl, ?_⟩
  exact ((HB.out.setCell (Nat.le_refl _) _).setCell (Nat.le_refl _) _).setCell (Nat.le_refl _) _
set_option maxRecDepth 100000 in
set_option maxHeartbeats 400000 in
theorem parse_large (F : Interp) (s d : ByteArray) (m : Int) (w : World) (hF : F.answers w.tape) (hc : CutsTo s d true) (hm : 3 < m) :
    Calls Ybaf.prog 6 #[.string s, .int .i64 m] w fun e w' => ∃ a, e = .returned (.tuple #[.agg #[.string ⟨#[]⟩, .string ⟨#[]⟩, .string ⟨#[]⟩], .iface 44 (.pointer (some a))]) ∧ Below w.heap.size w w' := by
  have hm2 : decide (m < 2) = false := by simp; omega
  go_enter Ybaf.func6, Ybaf.ntmps6
  go_wp2_with fail
  refine (hc _).mono ?_
  rintro e w' ⟨rfl, rfl⟩
  go_wp2_with fail
  refine (errorf_two F _ s m (w.heap.size + 1) _ (by exact hF) (fun w => by kernel_rfl) (by simp) (by simp)).mono ?_
  rintro e w2 ⟨rfl, hb⟩
  obtain ⟨c0, c1, c2, f0, f1, f2⟩ := cells3 hb
  have hz : w.heap.size < w2.heap.size := by have := hb.size; simp at this; omega
  have HB : Hid (Below w.heap.size w w2) := (((Below.refl w.heap.size w).alloc (Nat.le_refl _) _).alloc (by simp) _).trans (hb.mono (by simp; omega))
  go_wp2_with fail
  refine bodyPost_ret (v := .tuple #[.agg #[.string ⟨#[]⟩, .string ⟨#[]⟩, .string ⟨#[]⟩], .iface 44 (.pointer (some ⟨w.heap.size + 1 + 1, 0, none⟩))]) (by simp [results, Ybaf.results6, go_sem, c0, c1, c2]) rfl ⟨_, rfl, ?_⟩
  exact ((HB.out.setCell (Nat.le_refl _) _).setCell (Nat.le_refl _) _).setCell (Nat.le_refl _) _
set_option maxRecDepth 100000 in
set_option maxHeartbeats 400000 in
theorem parse_short (F : Interp) (s d : ByteArray) (m : Int) (w : World) (hF : F.answers w.tape) (hc : CutsTo s d true) (hm : ¬ m < 2) (hm3 : ¬ 3 < m) (hd : (d.size : Int) ≤ 3 + m) :
    Calls Ybaf.prog 6 #[.string s, .int .i64 m] w fun e w' => ∃ a, e = .returned (.tuple #[.agg #[.string ⟨#[]⟩, .string ⟨#[]⟩, .string ⟨#[]⟩], .iface 44 (.pointer (some a))]) ∧ Below w.heap.size w w' := by
  have hm2 : decide (m < 2) = false := by simp; omega
  have hm4 : decide (3 < m) = false := by simp; omega
  go_enter Ybaf.func6, Ybaf.ntmps6
  go_wp2_with fail
  refine (hc _).mono ?_
  rintro e w' ⟨rfl, rfl⟩
  go_wp2_with fail
  refine (errorf_two F _ s m (w.heap.size + 1) _ (by exact hF) (fun w => by kernel_rfl) (by simp) (by simp)).mono ?_
  rintro e w2 ⟨rfl, hb⟩
  obtain ⟨c0, c1, c2, f0, f1, f2⟩ := cells3 hb
  have hz : w.heap.size < w2.heap.size := by have := hb.size; simp at this; omega
  have HB : Hid (Below w.heap.size w w2) := (((Below.refl w.heap.size w).alloc (Nat.le_refl _) _).alloc (by simp) _).trans (hb.mono (by simp; omega))
  go_wp2_with fail
  refine bodyPost_ret (v := .tuple #[.agg #[.string ⟨#[]⟩, .string ⟨#[]⟩, .string ⟨#[]⟩], .iface 44 (.pointer (some ⟨w.heap.size + 1 + 1, 0, none⟩))]) (by simp [results, Ybaf.results6, go_sem, c0, c1, c2]) rfl ⟨_, rfl, ?_⟩
  exact ((HB.out.setCell (Nat.le_refl _) _).setCell (Nat.le_refl _) _).setCell (Nat.le_refl _) _

set_option maxRecDepth 100000 in
set_option maxHeartbeats 400000 in
theorem parse_yes2 (s d : ByteArray) (w : World) (hc : CutsTo s d true) (hd0 : d.size ≤ 1024) (hd : 5 < d.size) (hk : checkB (d.extract 0 3) (d.extract 3 5) (d.extract 5 d.size) = true) :
    Calls Ybaf.prog 6 #[.string s, .int .i64 2] w fun e w' => e = .returned (.tuple #[.agg #[.string (d.extract 0 3), .string (d.extract 3 5), .string (d.extract 5 d.size)], .nilIface]) ∧ Below w.heap.size w w' := by
  have hd1 : (5 : Int) < (d.size : Int) := by omega
  go_enter Ybaf.func6, Ybaf.ntmps6
  go_wp2_with fail
  refine (hc _).mono ?_
  rintro e w' ⟨rfl, rfl⟩
  go_wp2_with fail
  go_big_region
  go_wp2_with fail
  refine (check_ok _ _ _ _ (by simp; omega) (by simp; omega) (by simp; omega) hk).mono ?_
  rintro e w2 ⟨rfl, hbd⟩
  have hb := below_undrew hbd
  obtain ⟨c0, c1, c2, f0, f1, f2⟩ := cells3 hb
  obtain ⟨g0, g1, g2⟩ := cells3' hb
  have hz : w.heap.size < w2.heap.size := by have := hb.size; simp at this; omega
  have HB : Hid (Below w.heap.size w w2) := (((Below.refl w.heap.size w).alloc (Nat.le_refl _) _).alloc (by simp) _).trans (hb.mono (by simp; omega))
  clear hb hbd
  go_wp2_with fail
  refine bodyPost_ret (v := .tuple #[.agg #[.string (d.extract 0 3), .string (d.extract 3 5), .string (d.extract 5 d.size)], .nilIface]) (by simp [results, Ybaf.results6, go_sem, c0, c1, c2]) rfl ⟨rfl, ?_⟩
  exact ((HB.out.setCell (Nat.le_refl _) _).setCell (Nat.le_refl _) _).setCell (Nat.le_refl _) _

set_option maxRecDepth 100000 in
set_option maxHeartbeats 400000 in
theorem parse_no2 (F : Interp) (s d : ByteArray) (w : World) (hF : F.answers w.tape) (hc : CutsTo s d true) (hd0 : d.size ≤ 1024) (hd : 5 < d.size) (hk : checkB (d.extract 0 3) (d.extract 3 5) (d.extract 5 d.size) = false) :
    Calls Ybaf.prog 6 #[.string s, .int .i64 2] w fun e w' => ∃ a, e = .returned (.tuple #[.agg #[.string ⟨#[]⟩, .string ⟨#[]⟩, .string ⟨#[]⟩], .iface 44 (.pointer (some a))]) ∧ Below w.heap.size w w' := by
  have hd1 : (5 : Int) < (d.size : Int) := by omega
  go_enter Ybaf.func6, Ybaf.ntmps6
  go_wp2_with fail
  refine (hc _).mono ?_
  rintro e w' ⟨rfl, rfl⟩
  go_wp2_with fail
  go_big_region
  go_wp2_with fail
  refine (check_no F _ _ _ _ (by exact hF) (by simp; omega) (by simp; omega) (by simp; omega) hk).mono ?_
  rintro e w2 ⟨a, rfl, hbd⟩
  have hb := below_undrew hbd
  obtain ⟨c0, c1, c2, f0, f1, f2⟩ := cells3 hb
  have hz : w.heap.size < w2.heap.size := by have := hb.size; simp at this; omega
  have HB : Hid (Below w.heap.size w w2) := (((Below.refl w.heap.size w).alloc (Nat.le_refl _) _).alloc (by simp) _).trans (hb.mono (by simp; omega))
  clear hb hbd
  go_wp2_with fail
  refine bodyPost_ret (v := .tuple #[.agg #[.string ⟨#[]⟩, .string ⟨#[]⟩, .string ⟨#[]⟩], .iface 44 (.pointer (some a))]) (by simp [results, Ybaf.results6, go_sem, c0, c1, c2]) rfl ⟨_, rfl, ?_⟩
  exact ((HB.out.setCell (Nat.le_refl _) _).setCell (Nat.le_refl _) _).setCell (Nat.le_refl _) _

set_option maxRecDepth 100000 in
set_option maxHeartbeats 400000 in
theorem parse_yes3 (s d : ByteArray) (w : World) (hc : CutsTo s d true) (hd0 : d.size ≤ 1024) (hd : 6 < d.size) (hk : checkB (d.extract 0 3) (d.extract 3 6) (d.extract 6 d.size) = true) :
    Calls Ybaf.prog 6 #[.string s, .int .i64 3] w fun e w' => e = .returned (.tuple #[.agg #[.string (d.extract 0 3), .string (d.extract 3 6), .string (d.extract 6 d.size)], .nilIface]) ∧ Below w.heap.size w w' := by
  have hd1 : (6 : Int) < (d.size : Int) := by omega
  go_enter Ybaf.func6, Ybaf.ntmps6
  go_wp2_with fail
  refine (hc _).mono ?_
  rintro e w' ⟨rfl, rfl⟩
  go_wp2_with fail
  go_big_region
  go_wp2_with fail
  refine (check_ok _ _ _ _ (by simp; omega) (by simp; omega) (by simp; omega) hk).mono ?_
  rintro e w2 ⟨rfl, hbd⟩
  have hb := below_undrew hbd
  obtain ⟨c0, c1, c2, f0, f1, f2⟩ := cells3 hb
  obtain ⟨g0, g1, g2⟩ := cells3' hb
  have hz : w.heap.size < w2.heap.size := by have := hb.size; simp at this; omega
  have HB : Hid (Below w.heap.size w w2) := (((Below.refl w.heap.size w).alloc (Nat.le_refl _) _).alloc (by simp) _).trans (hb.mono (by simp; omega))
  clear hb hbd
  go_wp2_with fail
  refine bodyPost_ret (v := .tuple #[.agg #[.string (d.extract 0 3), .string (d.extract 3 6), .string (d.extract 6 d.size)], .nilIface]) (by simp [results, Ybaf.results6, go_sem, c0, c1, c2]) rfl ⟨rfl, ?_⟩
  exact ((HB.out.setCell (Nat.le_refl _) _).setCell (Nat.le_refl _) _).setCell (Nat.le_refl _) _

set_option maxRecDepth 100000 in
set_option maxHeartbeats 400000 in
theorem parse_no3 (F : Interp) (s d : ByteArray) (w : World) (hF : F.answers w.tape) (hc : CutsTo s d true) (hd0 : d.size ≤ 1024) (hd : 6 < d.size) (hk : checkB (d.extract 0 3) (d.extract 3 6) (d.extract 6 d.size) = false) :
    Calls Ybaf.prog 6 #[.string s, .int .i64 3] w fun e w' => ∃ a, e = .returned (.tuple #[.agg #[.string ⟨#[]⟩, .string ⟨#[]⟩, .string ⟨#[]⟩], .iface 44 (.pointer (some a))]) ∧ Below w.heap.size w w' := by
  have hd1 : (6 : Int) < (d.size : Int) := by omega
  go_enter Ybaf.func6, Ybaf.ntmps6
  go_wp2_with fail
  refine (hc _).mono ?_
  rintro e w' ⟨rfl, rfl⟩
  go_wp2_with fail
  go_big_region
  go_wp2_with fail
  refine (check_no F _ _ _ _ (by exact hF) (by simp; omega) (by simp; omega) (by simp; omega) hk).mono ?_
  rintro e w2 ⟨a, rfl, hbd⟩
  have hb := below_undrew hbd
  obtain ⟨c0, c1, c2, f0, f1, f2⟩ := cells3 hb
  have hz : w.heap.size < w2.heap.size := by have := hb.size; simp at this; omega
  have HB : Hid (Below w.heap.size w w2) := (((Below.refl w.heap.size w).alloc (Nat.le_refl _) _).alloc (by simp) _).trans (hb.mono (by simp; omega))
  clear hb hbd
  go_wp2_with fail
  refine bodyPost_ret (v := .tuple #[.agg #[.string ⟨#[]⟩, .string ⟨#[]⟩, .string ⟨#[]⟩], .iface 44 (.pointer (some a))]) (by simp [results, Ybaf.results6, go_sem, c0, c1, c2]) rfl ⟨_, rfl, ?_⟩
  exact ((HB.out.setCell (Nat.le_refl _) _).setCell (Nat.le_refl _) _).setCell (Nat.le_refl _) _

end Go.Proofs.YbulkcgwaFmt
