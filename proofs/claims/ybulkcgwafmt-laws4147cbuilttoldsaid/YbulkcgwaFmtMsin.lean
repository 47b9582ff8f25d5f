import Derived.Test.YbulkcgwaFmtCheck
/-! '(SUPI).check' (function 10) where the MSIN is refused. -/
namespace Go.Proofs.YbulkcgwaFmt
open Go.RowKit Go.Extern.Stop Go.Stop Go.Extern

set_option maxRecDepth 100000 in
set_option maxHeartbeats 800000 in
theorem check_msin (F : Interp) (mcc mnc msin : ByteArray) (w : World) (hF : F.answers w.tape) (h1 : mcc.size ≤ 1024) (h2 : mnc.size ≤ 1000) (h3 : msin.size ≤ 1024) (d1 : homeB mcc mnc = true)
    (d2 : digB msin 1 (12 - (mnc.size : Int)) = false) :
    Calls Ybaf.prog 10 #[.agg #[.string mcc, .string mnc, .string msin]] w fun e w' => ∃ a, e = .returned (.iface 44 (.pointer (some a))) ∧ Below w.heap.size w w' := by
  go_enter Ybaf.func10, Ybaf.ntmps10
  go_wp2_with fail
  refine (home_ok mcc mnc _ (by unfold maxLen; omega) (by unfold maxLen; omega) d1).mono ?_
  rintro e w1 ⟨rfl, hb1⟩
  have hc1 : w1.cell? ⟨w.heap.size, 1, none⟩ = some (.string mnc) := (hb1.cell (by simp)).trans (by simp)
  have hc2 : w1.cell? ⟨w.heap.size, 2, none⟩ = some (.string msin) := (hb1.cell (by simp)).trans (by simp)
  have hm3 : msin.size ≤ maxLen := by unfold maxLen; omega
  have hb : Below w.heap.size w w1 := ((Below.refl w.heap.size w).alloc (Nat.le_refl _) _).trans (hb1.mono (by simp))
  have HB : Hid (Below w.heap.size w w1) := hb
  have hz : w.heap.size < w1.heap.size := by have := hb1.size; simp at this; omega
  clear hb hb1
  go_upto_region 4 with fail
  go_cut [18] (fun v wx => v = .bool true ∧ Below w1.heap.size w1 wx)
  case first =>
    go_region_with (first | (go_at_call 16; refine (msin_calls mnc _ h2).mono ?_; rintro e w' ⟨rfl, rfl⟩) | (go_at_call 15; refine (digits_calls msin 1 _ _ hm3).mono ?_; rintro e w2 ⟨rfl, hb2⟩))
    all_goals (go_wp2_with fail; go_meet; exact ⟨rfl, below_undrew hb2⟩)
  case rest =>
    obtain ⟨rfl, hbx⟩ := hcut
    have hx1 : wc.cell? ⟨w.heap.size, 1, none⟩ = some (.string mnc) := (hbx.cell (by exact hz)).trans hc1
    have HBx : Hid (Below w.heap.size w wc) := HB.out.trans (hbx.mono (by omega))
    have hFc : Hid (F.answers wc.tape) := answers_below hF HBx.out
    clear hbx hc1 hc2
    go_wp2_with fail
    go_region_with (first | (go_at_call 16; refine (msin_calls mnc _ h2).mono ?_; rintro e w' ⟨rfl, rfl⟩) | (go_at_call 9; refine (errorf_four F _ (12 - (mnc.size : Int)) 15 3 (mnc.size : Int) wc.heap.size _ (by exact hFc.out) (fun w => by kernel_rfl) (by simp) (by simp) (by simp) (by simp)).mono ?_; rintro e w2 ⟨rfl, hb2⟩))
    all_goals (go_wp2_with fail; go_ret; exact ⟨_, rfl, ((HBx.out.alloc HBx.out.size _).drew).trans (hb2.mono (by have := HBx.out.size; simp; omega))⟩)

/-- whatever part is refused: an error that is not nil -/
theorem check_no (F : Interp) (mcc mnc msin : ByteArray) (w : World) (hF : F.answers w.tape) (h1 : mcc.size ≤ 1024) (h2 : mnc.size ≤ 1000) (h3 : msin.size ≤ 1024) (hh : checkB mcc mnc msin = false) :
    Calls Ybaf.prog 10 #[.agg #[.string mcc, .string mnc, .string msin]] w fun e w' => ∃ a, e = .returned (.iface 44 (.pointer (some a))) ∧ Below w.heap.size w w' := by
  cases d1 : homeB mcc mnc with
  | false => exact check_home F mcc mnc msin w hF h1 h2 d1
  | true => exact check_msin F mcc mnc msin w hF h1 h2 h3 d1 (by simpa [checkB, d1] using hh)
end Go.Proofs.YbulkcgwaFmt
