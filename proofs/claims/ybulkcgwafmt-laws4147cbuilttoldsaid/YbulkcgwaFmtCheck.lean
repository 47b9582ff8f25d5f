import Derived.Test.YbulkcgwaFmtDigits
import Derived.Deep.RegionWith
import Derived.Deep.DeepCutAuto
import Derived.BigRegion
/-! The contracts of 'CheckHomeNetwork' (function 14), 'maxMSINDigits' (16) and '(SUPI).check' (10). -/
namespace Go.Proofs.YbulkcgwaFmt
open Go.RowKit Go.Extern.Stop Go.Stop Go.Extern

theorem below_undrew {w w' : World} (h : Below w.drew.heap.size w.drew w') : Below w.heap.size w w' := ⟨h.os, h.tape, h.output, h.size, h.block⟩

def homeB (mcc mnc : ByteArray) : Bool := digB mcc 3 3 && digB mnc 2 3

theorem answers_below {F : Interp} {B : Nat} {w w' : World} (hF : F.answers w.tape) (h : Below B w w') : F.answers w'.tape := by rw [h.tape]; exact hF

set_option maxRecDepth 100000 in
set_option maxHeartbeats 400000 in
theorem home_ok (mcc mnc : ByteArray) (w : World) (h1 : mcc.size ≤ maxLen) (h2 : mnc.size ≤ maxLen) (hh : homeB mcc mnc = true) :
    Calls Ybaf.prog 14 #[.string mcc, .string mnc] w fun e w' => e = .returned .nilIface ∧ Below w.heap.size w w' := by
  obtain ⟨d1, d2⟩ : digB mcc 3 3 = true ∧ digB mnc 2 3 = true := by simpa [homeB] using hh
  go_enter Ybaf.func14, Ybaf.ntmps14
  go_wp2_with fail
  refine (digits_calls mcc 3 3 _ h1).mono ?_
  rintro e w1 ⟨rfl, hb1⟩
  rw [d1]
  go_wp2_with fail
  refine (digits_calls mnc 2 3 _ h2).mono ?_
  rintro e w2 ⟨rfl, hb2⟩
  rw [d2]
  go_wp2_with fail
  go_ret
  exact ⟨rfl, hb1.trans (hb2.mono hb1.size)⟩

set_option maxRecDepth 100000 in
set_option maxHeartbeats 400000 in
theorem home_no (F : Interp) (mcc mnc : ByteArray) (w : World) (hF : F.answers w.tape) (h1 : mcc.size ≤ maxLen) (h2 : mnc.size ≤ maxLen) (hh : homeB mcc mnc = false) :
    Calls Ybaf.prog 14 #[.string mcc, .string mnc] w fun e w' => ∃ a, e = .returned (.iface 44 (.pointer (some a))) ∧ Below w.heap.size w w' := by
  cases d1 : digB mcc 3 3 with
  | false =>
    go_enter Ybaf.func14, Ybaf.ntmps14
    go_wp2_with fail
    refine (digits_calls mcc 3 3 _ h1).mono ?_
    rintro e w1 ⟨rfl, hb1⟩
    rw [d1]
    go_wp2_with fail
    refine (errorf_two F _ mcc 3 w1.heap.size _ (by exact answers_below hF (hb1.alloc hb1.size _)) (fun w => by kernel_rfl) (by simp) (by simp)).mono ?_
    rintro e w2 ⟨rfl, hb2⟩
    go_wp2_with fail
    go_ret
    exact ⟨_, rfl, (hb1.alloc hb1.size _).trans (hb2.mono (by have := hb1.size; simp; omega))⟩
  | true =>
    have d2 : digB mnc 2 3 = false := by simpa [homeB, d1] using hh
    go_enter Ybaf.func14, Ybaf.ntmps14
    go_wp2_with fail
    refine (digits_calls mcc 3 3 _ h1).mono ?_
    rintro e w1 ⟨rfl, hb1⟩
    rw [d1]
    go_wp2_with fail
    refine (digits_calls mnc 2 3 _ h2).mono ?_
    rintro e w2 ⟨rfl, hb2⟩
    rw [d2]
    have hb3 : Below w.heap.size w w2 := hb1.trans (hb2.mono hb1.size)
    go_wp2_with fail
    refine (errorf_three F _ mnc 2 3 w2.heap.size _ (by exact answers_below hF (hb3.alloc hb3.size _)) (fun w => by kernel_rfl) (by simp) (by simp) (by simp)).mono ?_
    rintro e w4 ⟨rfl, hb4⟩
    go_wp2_with fail
    go_ret
    exact ⟨_, rfl, (hb3.alloc hb3.size _).trans (hb4.mono (by have := hb3.size; simp; omega))⟩

theorem msin_calls (mnc : ByteArray) (w : World) (h : mnc.size ≤ 1000) :
    Calls Ybaf.prog 16 #[.string mnc] w fun e w' => e = .returned (.int .i64 (12 - (mnc.size : Int))) ∧ w' = w := by
  go_enter Ybaf.func16, Ybaf.ntmps16
  go_wp2
  go_ret
  exact ⟨rfl, rfl⟩

def checkB (mcc mnc msin : ByteArray) : Bool := homeB mcc mnc && digB msin 1 (12 - (mnc.size : Int))

set_option maxRecDepth 100000 in
set_option maxHeartbeats 400000 in
theorem check_ok (mcc mnc msin : ByteArray) (w : World) (h1 : mcc.size ≤ 1024) (h2 : mnc.size ≤ 1000) (h3 : msin.size ≤ 1024) (hh : checkB mcc mnc msin = true) :
    Calls Ybaf.prog 10 #[.agg #[.string mcc, .string mnc, .string msin]] w fun e w' => e = .returned .nilIface ∧ Below w.heap.size w w' := by
  obtain ⟨d1, d2⟩ : homeB mcc mnc = true ∧ digB msin 1 (12 - (mnc.size : Int)) = true := by simpa [checkB] using hh
  go_enter Ybaf.func10, Ybaf.ntmps10
  go_wp2_with fail
  refine (home_ok mcc mnc _ (by unfold maxLen; omega) (by unfold maxLen; omega) d1).mono ?_
  rintro e w1 ⟨rfl, hb1⟩
  have hc1 : w1.cell? ⟨w.heap.size, 1, none⟩ = some (.string mnc) := (hb1.cell (by simp)).trans (by simp)
  have hc2 : w1.cell? ⟨w.heap.size, 2, none⟩ = some (.string msin) := (hb1.cell (by simp)).trans (by simp)
  have hm3 : msin.size ≤ maxLen := by unfold maxLen; omega
  have hb : Below w.heap.size w w1 := ((Below.refl w.heap.size w).alloc (Nat.le_refl _) _).trans (hb1.mono (by simp))
  have HB : Hid (Below w.heap.size w w1) := hb
  have hz : w.heap.size ≤ w1.heap.size := hb.size
  clear hb hb1
  go_upto_region 4 with fail
  go_cut [18] (fun v wx => v = .bool false ∧ Below w1.heap.size w1 wx)
  case first =>
    go_region_with (first | (go_at_call 16; refine (msin_calls mnc _ h2).mono ?_; rintro e w' ⟨rfl, rfl⟩) | (go_at_call 15; refine (digits_calls msin 1 _ _ hm3).mono ?_; rintro e w2 ⟨rfl, hb2⟩))
    all_goals (go_wp2_with fail; go_meet; exact ⟨rfl, below_undrew hb2⟩)
  case rest =>
    obtain ⟨rfl, hbx⟩ := hcut
    go_wp2_with fail
    go_ret
    exact ⟨rfl, HB.out.trans (hbx.mono hz)⟩

set_option maxRecDepth 100000 in
set_option maxHeartbeats 400000 in
theorem check_home (F : Interp) (mcc mnc msin : ByteArray) (w : World) (hF : F.answers w.tape) (h1 : mcc.size ≤ 1024) (h2 : mnc.size ≤ 1000) (d1 : homeB mcc mnc = false) :
    Calls Ybaf.prog 10 #[.agg #[.string mcc, .string mnc, .string msin]] w fun e w' => ∃ a, e = .returned (.iface 44 (.pointer (some a))) ∧ Below w.heap.size w w' := by
  go_enter Ybaf.func10, Ybaf.ntmps10
  go_wp2_with fail
  refine (home_no F mcc mnc _ (by exact hF) (by unfold maxLen; omega) (by unfold maxLen; omega) d1).mono ?_
  rintro e w1 ⟨a, rfl, hb1⟩
  have hb : Below w.heap.size w w1 := ((Below.refl w.heap.size w).alloc (Nat.le_refl _) _).trans (hb1.mono (by simp))
  go_wp2_with fail
  go_ret
  exact ⟨a, rfl, hb⟩

end Go.Proofs.YbulkcgwaFmt
