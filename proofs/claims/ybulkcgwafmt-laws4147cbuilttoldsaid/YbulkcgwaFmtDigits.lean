import Derived.Test.YbulkcgwaFmtErr
import Derived.Laws.IdiomStrings
import Derived.Lib.ConvBytes
/-! The contract of 'isDigits' (function 15). -/
namespace Go.Proofs.YbulkcgwaFmt
open Go.RowKit Go.Extern.Stop Go.Stop Go.Extern

def dig (c : UInt8) : Bool := decide (48 ≤ c.toNat) && decide (c.toNat ≤ 57)
def digB (s : ByteArray) (lo hi : Int) : Bool := decide (lo ≤ (s.size : Int)) && (decide ((s.size : Int) ≤ hi) && s.data.toList.all dig)

theorem dig_low (s : ByteArray) (lo hi : Int) (h : (s.size : Int) < lo) : digB s lo hi = false := by
  unfold digB; rw [decide_eq_false (show ¬ lo ≤ (s.size : Int) by omega)]; rfl
theorem dig_high (s : ByteArray) (lo hi : Int) (h : hi < (s.size : Int)) : digB s lo hi = false := by
  unfold digB; rw [decide_eq_false (show ¬ (s.size : Int) ≤ hi by omega)]; simp
theorem dig_bad (s : ByteArray) (lo hi : Int) (k : Nat) (h : k < s.size) (hb : dig (s.data.toList.getD k 0) = false) : digB s lo hi = false := by
  unfold digB
  have : s.data.toList.all dig = false := by
    rw [List.all_eq_false]
    have hk : k < s.data.toList.length := by simpa using h
    refine ⟨s.data.toList[k], List.getElem_mem _, ?_⟩
    simpa [List.getD, List.getElem?_eq_getElem hk] using hb
  simp [this]
theorem dig_good (s : ByteArray) (lo hi : Int) (h0 : lo ≤ (s.size : Int)) (h1 : (s.size : Int) ≤ hi) (hb : ∀ k, k < s.size → dig (s.data.toList.getD k 0) = true) : digB s lo hi = true := by
  unfold digB
  rw [decide_eq_true h0, decide_eq_true h1]
  simp only [Bool.true_and]
  rw [List.all_eq_true]
  intro x hx
  obtain ⟨k, hk, rfl⟩ := List.getElem_of_mem hx
  have := hb k (by simpa using hk)
  simpa [List.getD, List.getElem?_eq_getElem hk] using this
theorem dig_yes (c : UInt8) (h1 : ¬ (c.toNat : Int) < 48) (h2 : ¬ (57 : Int) < (c.toNat : Int)) : dig c = true := by
  unfold dig; simp; omega
theorem dig_no (c : UInt8) (h1 : (c.toNat : Int) < 48 ∨ (57 : Int) < (c.toNat : Int)) : dig c = false := by
  unfold dig; simp; omega
theorem ret_bool {a b : Bool} (h : a = b) : Ending.returned (.bool a) = .returned (.bool b) := by rw [h]

theorem bytes_below (w : World) (e : TypeId) (s : ByteArray) : Below w.heap.size w (Lib.bytesWorld w e s) :=
  ⟨rfl, rfl, rfl, by rw [Lib.bytesWorld_size]; omega, fun k hk => Lib.bytesWorld_at_old w e s k hk⟩

set_option maxHeartbeats 400000 in
theorem digits_calls (s : ByteArray) (lo hi : Int) (w : World) (hs : s.size ≤ maxLen) :
    Calls Ybaf.prog 15 #[.string s, .int .i64 lo, .int .i64 hi] w fun e w' => e = .returned (.bool (digB s lo hi)) ∧ Below w.heap.size w w' := by
  unfold maxLen at hs
  by_cases h0 : (s.size : Int) < lo
  · have F : Hid (digB s lo hi = false) := dig_low s lo hi h0
    go_enter Ybaf.func15, Ybaf.ntmps15
    go_wp2
    go_ret
    exact ⟨ret_bool F.out.symm, Below.refl _ _⟩
  by_cases h1 : hi < (s.size : Int)
  · have F : Hid (digB s lo hi = false) := dig_high s lo hi h1
    have e0 : decide ((s.size : Int) < lo) = false := by simp; omega
    go_enter Ybaf.func15, Ybaf.ntmps15
    go_wp2
    go_ret
    exact ⟨ret_bool F.out.symm, Below.refl _ _⟩
  have e0 : decide ((s.size : Int) < lo) = false := by simp; omega
  have e1 : decide (hi < (s.size : Int)) = false := by simp; omega
  have hcv := Lib.run_convert_string_bytes (P := Ybaf.prog) w 9 23 5 s Ybaf.underlying9 Ybaf.underlying23 Ybaf.underlying5
  have HB : Hid (Below w.heap.size w (Lib.bytesWorld w 5 s)) := bytes_below w 5 s
  have HC : Hid (∀ j, j < s.size → (Lib.bytesWorld w 5 s).cell? ⟨w.heap.size, j, none⟩ = some (.int .u8 (s.data.toList.getD j 0).toNat)) := fun j hj => Lib.bytesWorld_cell w 5 s j hj
  generalize Lib.bytesWorld w 5 s = w1 at *
  generalize grownCap w s.size 0 5 = cp at *
  go_enter Ybaf.func15, Ybaf.ntmps15
  go_wp2
  go_loop [22] (fun i => ∃ k : Nat, k ≤ s.size ∧ i = .int .i64 k ∧ ∀ j, j < k → dig (s.data.toList.getD j 0) = true) (fun i => s.size - (intOf i).toNat)
  case atStart => exact ⟨0, Nat.zero_le _, rfl, fun j h => absurd h (Nat.not_lt_zero _)⟩
  case round =>
    obtain ⟨k, hk, rfl, hall⟩ := hrel
    have H : Hid (∀ j, j < k → dig (s.data.toList.getD j 0) = true) := hall
    clear hall
    by_cases hlt : k < s.size
    · obtain ⟨c, hc⟩ : ∃ c, c = s.data.toList.getD k 0 := ⟨_, rfl⟩
      have hcell : w1.cell? ⟨w.heap.size, k, none⟩ = some (.int .u8 (c.toNat : Int)) := by rw [hc]; exact HC.out k hlt
      have HCc : Hid (c = s.data.toList.getD k 0) := hc
      clear hc
      go_wp2
      · go_ret
        exact ⟨ret_bool (dig_bad s lo hi k hlt (by rw [← HCc.out]; exact dig_no c (by assumption))).symm, HB.out⟩
      · go_round
        case rel =>
          refine ⟨k + 1, by omega, by go_num, fun j hj => ?_⟩
          by_cases hjk : j = k
          · subst hjk; rw [← HCc.out]; exact dig_yes c (by omega) (by omega)
          · exact H.out j (by omega)
        case measure => simp [intOf]; omega
      · go_ret
        exact ⟨ret_bool (dig_bad s lo hi k hlt (by rw [← HCc.out]; exact dig_no c (.inl (by assumption)))).symm, HB.out⟩
    · go_wp2
      go_ret
      exact ⟨ret_bool (dig_good s lo hi (by omega) (by omega) fun j hj => H.out j (by omega)).symm, HB.out⟩
end Go.Proofs.YbulkcgwaFmt
