import Derived.Test.YbulkcgwaFmtErr
/-! The contract of 'strings.CutPrefix' (function 8) at the prefix that ParseSUPI asks for. -/
namespace Go.Proofs.YbulkcgwaFmt
open Go.RowKit Go.Extern.Stop Go.Stop Go.Extern

theorem ret_two {a a' b b' : Value} (h : a = a') (k : b = b') : Ending.returned (.tuple #[a, b]) = .returned (.tuple #[a', b']) := by rw [h, k]

set_option maxHeartbeats 400000 in
theorem cut_yes (s : ByteArray) (w : World) (hs : s.size ≤ 2048) (h5 : 5 ≤ s.size) (hp : ((s.extract 0 5).toList == [105, 109, 115, 105, 45]) = true) :
    Calls Ybaf.prog 8 #[.string s, .string ⟨#[105, 109, 115, 105, 45]⟩] w fun e w' => e = .returned (.tuple #[.string (s.extract 5 s.size), .bool true]) ∧ w' = w := by
  have h5' : (5 : Int) ≤ (s.size : Int) := by omega
  have hp' : (!(s.extract 0 5).toList == [105, 109, 115, 105, 45]) = false := by rw [hp]; rfl
  go_enter Ybaf.func8, Ybaf.ntmps8
  go_wp2
  go_ret2
  exact ⟨rfl, rfl⟩

set_option maxHeartbeats 400000 in
theorem cut_short (s : ByteArray) (w : World) (h5 : s.size < 5) :
    Calls Ybaf.prog 8 #[.string s, .string ⟨#[105, 109, 115, 105, 45]⟩] w fun e w' => e = .returned (.tuple #[.string s, .bool false]) ∧ w' = w := by
  have h5' : decide ((5 : Int) ≤ (s.size : Int)) = false := by simp; omega
  go_enter Ybaf.func8, Ybaf.ntmps8
  go_wp2
  go_ret2
  exact ⟨rfl, rfl⟩

set_option maxHeartbeats 400000 in
theorem cut_no (s : ByteArray) (w : World) (h5 : 5 ≤ s.size) (hp : ((s.extract 0 5).toList == [105, 109, 115, 105, 45]) = false) :
    Calls Ybaf.prog 8 #[.string s, .string ⟨#[105, 109, 115, 105, 45]⟩] w fun e w' => e = .returned (.tuple #[.string s, .bool false]) ∧ w' = w := by
  have h5' : (5 : Int) ≤ (s.size : Int) := by omega
  have hp' : (!(s.extract 0 5).toList == [105, 109, 115, 105, 45]) = true := by rw [hp]; rfl
  go_enter Ybaf.func8, Ybaf.ntmps8
  go_wp2
  go_ret2
  exact ⟨rfl, rfl⟩
end Go.Proofs.YbulkcgwaFmt
