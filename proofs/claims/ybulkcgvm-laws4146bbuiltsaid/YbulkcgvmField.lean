import Derived.Test.YbulkcgvmRows
import Derived.WalkKit
import Derived.WalkSpells
import Derived.ProofKit
import Derived.OpenShut
import Derived.ShutString
import Derived.ChangeOld
import Derived.Below
import Derived.Deep.QuietTactic
import Derived.BigQuiet
/-! The contracts of 'isHeaderField' (function 7) and of the law's model 'zzs4146bmodel' (function 8). -/
namespace Go.Proofs.Ybulkcgvm
open Go.ChangeShapes Go.WideShapes Go.ChangeAt Go.RowKit

/-- the byte may stand in a header field -/
def okByte (c : UInt8) : Bool := decide (33 ≤ c.toNat) && decide (c.toNat ≤ 126)
/-- what both functions answer -/
def fieldB (s : ByteArray) (m : Int) : Bool := decide (0 < s.size) && (decide ((s.size : Int) ≤ m) && s.data.toList.all okByte)

theorem field_empty (s : ByteArray) (m : Int) (h : s.size = 0) : fieldB s m = false := by
  unfold fieldB; simp [h]
theorem field_long (s : ByteArray) (m : Int) (h : m < (s.size : Int)) : fieldB s m = false := by
  unfold fieldB
  rw [decide_eq_false (show ¬ ((s.size : Int) ≤ m) by omega)]; simp
theorem field_bad (s : ByteArray) (m : Int) (k : Nat) (h : k < s.size) (hb : okByte s[k] = false) : fieldB s m = false := by
  unfold fieldB
  have : s.data.toList.all okByte = false := by
    rw [List.all_eq_false]
    refine ⟨s[k], ?_, by simp [hb]⟩
    have e : s[k] = s.data.toList[k]'(by simpa using h) := rfl
    rw [e]; exact List.getElem_mem _
  simp [this]
theorem field_good (s : ByteArray) (m : Int) (h0 : 0 < s.size) (h1 : (s.size : Int) ≤ m) (hb : ∀ k (h : k < s.size), okByte s[k] = true) : fieldB s m = true := by
  unfold fieldB
  rw [decide_eq_true h0, decide_eq_true h1]
  simp only [Bool.true_and]
  rw [List.all_eq_true]
  intro x hx
  obtain ⟨k, hk, rfl⟩ := List.getElem_of_mem hx
  exact hb k (by simpa using hk)

theorem ok_yes (c : UInt8) (h1 : ¬ (c.toNat : Int) ≤ 32) (h2 : ¬ (127 : Int) ≤ (c.toNat : Int)) : okByte c = true := by
  unfold okByte; simp; omega
theorem ok_no (c : UInt8) (h1 : (c.toNat : Int) ≤ 32 ∨ (127 : Int) ≤ (c.toNat : Int)) : okByte c = false := by
  unfold okByte; simp; omega

theorem ret_bool {a b : Bool} (h : a = b) : Ending.returned (.bool a) = .returned (.bool b) := by rw [h]

set_option maxHeartbeats 400000 in
theorem field_calls (s : ByteArray) (m : Int) (w : World) (hs : s.size ≤ maxLen) :
    Calls Yba.prog 7 #[.string s, .int .i64 m] w fun e w' => e = .returned (.bool (fieldB s m)) ∧ w' = w := by
  unfold maxLen at hs
  by_cases h0 : s.size = 0
  · have F : Hid (fieldB s m = false) := field_empty s m h0
    have e0 : ((s.size : Int) == 0) = true := beq_iff_eq.2 (by omega)
    go_enter Yba.func7, Yba.ntmps7
    go_wp2
    go_ret
    exact ⟨ret_bool F.out.symm, rfl⟩
  have e0 : ((s.size : Int) == 0) = false := beq_eq_false_iff_ne.2 (by omega)
  by_cases h1 : m < (s.size : Int)
  · have F : Hid (fieldB s m = false) := field_long s m h1
    go_enter Yba.func7, Yba.ntmps7
    go_wp2
    go_ret
    exact ⟨ret_bool F.out.symm, rfl⟩
  go_enter Yba.func7, Yba.ntmps7
  go_wp2
  go_loop [5] (fun i => ∃ k : Nat, k ≤ s.size ∧ i = .int .i64 k ∧ ∀ j (h : j < s.size), j < k → okByte s[j] = true) (fun i => s.size - (intOf i).toNat)
  case atStart => exact ⟨0, Nat.zero_le _, rfl, fun j _ h => absurd h (Nat.not_lt_zero _)⟩
  case round =>
    obtain ⟨k, hk, rfl, hall⟩ := hrel
    have H : Hid (∀ j (h : j < s.size), j < k → okByte s[j] = true) := hall
    clear hall
    by_cases hlt : k < s.size
    · go_wp2
      · go_ret
        exact ⟨ret_bool (field_bad s m k hlt (ok_no _ (.inr (by omega)))).symm, rfl⟩
      · go_round
        case rel =>
          refine ⟨k + 1, by omega, by go_num, fun j hj hjk => ?_⟩
          by_cases hje : j = k
          · subst hje; exact ok_yes _ (by omega) (by omega)
          · exact H.out j hj (by omega)
        case measure => simp [intOf]; omega
      · go_ret
        exact ⟨ret_bool (field_bad s m k hlt (ok_no _ (.inl (by omega)))).symm, rfl⟩
    · go_wp2
      go_ret
      exact ⟨ret_bool (field_good s m (by omega) (by omega) fun j hj => H.out j hj (by omega)).symm, rfl⟩

set_option maxHeartbeats 400000 in
theorem model_calls (s : ByteArray) (m : Int) (w : World) (hs : s.size ≤ maxLen) :
    Calls Yba.prog 8 #[.string s, .int .i64 m] w fun e w' => e = .returned (.bool (fieldB s m)) ∧ w' = w := by
  unfold maxLen at hs
  by_cases h0 : s.size = 0
  · have F : Hid (fieldB s m = false) := field_empty s m h0
    have e0 : ((s.size : Int) == 0) = true := beq_iff_eq.2 (by omega)
    go_enter Yba.func8, Yba.ntmps8
    go_wp2
    go_ret
    exact ⟨ret_bool F.out.symm, rfl⟩
  have e0 : ((s.size : Int) == 0) = false := beq_eq_false_iff_ne.2 (by omega)
  by_cases h1 : m < (s.size : Int)
  · have F : Hid (fieldB s m = false) := field_long s m h1
    go_enter Yba.func8, Yba.ntmps8
    go_wp2
    go_ret
    exact ⟨ret_bool F.out.symm, rfl⟩
  go_enter Yba.func8, Yba.ntmps8
  go_wp2
  go_loop [5] (fun i => ∃ k : Nat, k ≤ s.size ∧ i = .int .i64 k ∧ ∀ j (h : j < s.size), j < k → okByte s[j] = true) (fun i => s.size - (intOf i).toNat)
  case atStart => exact ⟨0, Nat.zero_le _, rfl, fun j _ h => absurd h (Nat.not_lt_zero _)⟩
  case round =>
    obtain ⟨k, hk, rfl, hall⟩ := hrel
    have H : Hid (∀ j (h : j < s.size), j < k → okByte s[j] = true) := hall
    clear hall
    by_cases hlt : k < s.size
    · go_wp2
      · go_ret
        exact ⟨ret_bool (field_bad s m k hlt (ok_no _ (.inr (by omega)))).symm, rfl⟩
      · go_round
        case rel =>
          refine ⟨k + 1, by omega, by go_num, fun j hj hjk => ?_⟩
          by_cases hje : j = k
          · subst hje; exact ok_yes _ (by omega) (by omega)
          · exact H.out j hj (by omega)
        case measure => simp [intOf]; omega
      · go_ret
        exact ⟨ret_bool (field_bad s m k hlt (ok_no _ (.inl (by omega)))).symm, rfl⟩
    · go_wp2
      go_ret
      exact ⟨ret_bool (field_good s m (by omega) (by omega) fun j hj => H.out j hj (by omega)).symm, rfl⟩
end Go.Proofs.Ybulkcgvm
