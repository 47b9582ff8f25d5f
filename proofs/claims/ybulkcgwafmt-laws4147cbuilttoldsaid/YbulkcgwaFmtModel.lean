import Derived.Test.YbulkcgwaFmtDigits
import Derived.BigRegion
/-! The contract of the law's own model 'zzs4147cmodel' (function 7). -/
namespace Go.Proofs.YbulkcgwaFmt
open Go.RowKit Go.Extern.Stop Go.Stop Go.Extern

/-- the model refuses -/
def Refuses (s : ByteArray) (m : Int) : Prop := ∀ w : World,
  Calls Ybaf.prog 7 #[.string s, .int .i64 m] w fun e w' => e = .returned (.tuple #[.agg #[.string ⟨#[]⟩, .string ⟨#[]⟩, .string ⟨#[]⟩], .bool false]) ∧ Below w.heap.size w w'

set_option maxRecDepth 100000 in
set_option maxHeartbeats 400000 in
theorem model_short (s : ByteArray) (m : Int) (h : s.size < 5) : Refuses s m := by
  intro w
  have h' : (s.size : Int) < 5 := by omega
  go_enter Ybaf.func7, Ybaf.ntmps7
  go_wp2
  exact bodyPost_ret (v := .tuple #[.agg #[.string ⟨#[]⟩, .string ⟨#[]⟩, .string ⟨#[]⟩], .bool false]) (by simp [results, Ybaf.results7, go_sem]) rfl ⟨rfl, (Below.refl _ _).alloc (Nat.le_refl _) _⟩

set_option maxRecDepth 100000 in
set_option maxHeartbeats 400000 in
theorem model_nofix (s : ByteArray) (m : Int) (h : 5 ≤ s.size) (hp : ((s.extract 0 5).toList == [105, 109, 115, 105, 45]) = false) : Refuses s m := by
  intro w
  have h' : decide ((s.size : Int) < 5) = false := by simp; omega
  have h5' : (5 : Int) ≤ (s.size : Int) := by omega
  go_enter Ybaf.func7, Ybaf.ntmps7
  go_wp2
  exact bodyPost_ret (v := .tuple #[.agg #[.string ⟨#[]⟩, .string ⟨#[]⟩, .string ⟨#[]⟩], .bool false]) (by simp [results, Ybaf.results7, go_sem]) rfl ⟨rfl, (Below.refl _ _).alloc (Nat.le_refl _) _⟩

set_option maxRecDepth 100000 in
set_option maxHeartbeats 400000 in
theorem model_badm (s : ByteArray) (m : Int) (h : 5 ≤ s.size) (hp : ((s.extract 0 5).toList == [105, 109, 115, 105, 45]) = true) (h2 : ¬ m = 2) (h3 : ¬ m = 3) : Refuses s m := by
  intro w
  have h' : decide ((s.size : Int) < 5) = false := by simp; omega
  have h5' : (5 : Int) ≤ (s.size : Int) := by omega
  have m2 : (m != 2) = true := by rw [bne_iff_ne]; exact h2
  have m3 : (m != 3) = true := by rw [bne_iff_ne]; exact h3
  go_enter Ybaf.func7, Ybaf.ntmps7
  go_wp2
  exact bodyPost_ret (v := .tuple #[.agg #[.string ⟨#[]⟩, .string ⟨#[]⟩, .string ⟨#[]⟩], .bool false]) (by simp [results, Ybaf.results7, go_sem]) rfl ⟨rfl, (Below.refl _ _).alloc (Nat.le_refl _) _⟩

theorem all_no (d : ByteArray) (k : Nat) (h : k < d.size) (hb : dig d[k] = false) : d.data.toList.all dig = false := by
  rw [List.all_eq_false]
  refine ⟨d[k], ?_, by simp [hb]⟩
  have e : d[k] = d.data.toList[k]'(by simpa using h) := rfl
  rw [e]; exact List.getElem_mem _
theorem all_at (d : ByteArray) (h : d.data.toList.all dig = true) (k : Nat) (hk : k < d.size) : (48 : Int) ≤ (d[k].toNat : Int) ∧ (d[k].toNat : Int) ≤ 57 := by
  rw [List.all_eq_true] at h
  have e : d[k] = d.data.toList[k]'(by simpa using hk) := rfl
  have := h d[k] (by rw [e]; exact List.getElem_mem _)
  simp [dig] at this
  omega
theorem all_yes (d : ByteArray) (hb : ∀ k (h : k < d.size), dig d[k] = true) : d.data.toList.all dig = true := by
  rw [List.all_eq_true]
  intro x hx
  obtain ⟨k, hk, rfl⟩ := List.getElem_of_mem hx
  exact hb k (by simpa using hk)

set_option maxRecDepth 100000 in
set_option maxHeartbeats 400000 in
theorem model_few2 (s : ByteArray) (h : 5 ≤ s.size) (hp : ((s.extract 0 5).toList == [105, 109, 115, 105, 45]) = true) (hn : s.size - 5 < 6) : Refuses s 2 := by
  intro w
  have h' : decide ((s.size : Int) < 5) = false := by simp; omega
  have h5' : (5 : Int) ≤ (s.size : Int) := by omega
  have hn' : ((s.size - 5 : Nat) : Int) < 6 := by omega
  go_enter Ybaf.func7, Ybaf.ntmps7
  go_wp2
  exact bodyPost_ret (v := .tuple #[.agg #[.string ⟨#[]⟩, .string ⟨#[]⟩, .string ⟨#[]⟩], .bool false]) (by simp [results, Ybaf.results7, go_sem]) rfl ⟨rfl, (Below.refl _ _).alloc (Nat.le_refl _) _⟩

set_option maxRecDepth 100000 in
set_option maxHeartbeats 400000 in
theorem model_many2 (s : ByteArray) (h : 5 ≤ s.size) (hp : ((s.extract 0 5).toList == [105, 109, 115, 105, 45]) = true) (hn : 15 < s.size - 5) : Refuses s 2 := by
  intro w
  have h' : decide ((s.size : Int) < 5) = false := by simp; omega
  have h5' : (5 : Int) ≤ (s.size : Int) := by omega
  have hn' : decide (((s.size - 5 : Nat) : Int) < 6) = false := by simp; omega
  have hn2 : (15 : Int) < ((s.size - 5 : Nat) : Int) := by omega
  go_enter Ybaf.func7, Ybaf.ntmps7
  go_wp2
  exact bodyPost_ret (v := .tuple #[.agg #[.string ⟨#[]⟩, .string ⟨#[]⟩, .string ⟨#[]⟩], .bool false]) (by simp [results, Ybaf.results7, go_sem]) rfl ⟨rfl, (Below.refl _ _).alloc (Nat.le_refl _) _⟩

set_option maxRecDepth 100000 in
set_option maxHeartbeats 400000 in
theorem model_no2 (s d : ByteArray) (hd : s.extract 5 s.size = d) (h : 5 ≤ s.size) (hp : ((s.extract 0 5).toList == [105, 109, 115, 105, 45]) = true) (hn : ¬ s.size - 5 < 6) (hn1 : ¬ 15 < s.size - 5) (ha : d.data.toList.all dig = false) : Refuses s 2 := by
  intro w
  have HA : Hid (d.data.toList.all dig = false) := ha
  clear ha
  have h' : decide ((s.size : Int) < 5) = false := by simp; omega
  have h5' : (5 : Int) ≤ (s.size : Int) := by omega
  have hds : d.size = s.size - 5 := by rw [← hd]; simp
  have hn' : decide ((d.size : Int) < 6) = false := by simp; omega
  have hn2 : decide ((15 : Int) < (d.size : Int)) = false := by simp; omega
  have hn3 : d.size ≤ 15 := by omega
  have hn4 : (6 : Int) ≤ (d.size : Int) := by omega
  clear hds
  go_enter Ybaf.func7, Ybaf.ntmps7
  go_wp2
  clear hd hp h h' h5' hn hn1 hn' hn2
  go_loop [8] (fun i => ∃ k : Nat, k ≤ d.size ∧ i = .int .i64 k ∧ ∀ j (h : j < d.size), j < k → dig d[j] = true) (fun i => d.size - (intOf i).toNat)
  case atStart => exact ⟨0, Nat.zero_le _, rfl, fun j _ h => absurd h (Nat.not_lt_zero _)⟩
  case round =>
    obtain ⟨k, hk, rfl, hall⟩ := hrel
    have H : Hid (∀ j (h : j < d.size), j < k → dig d[j] = true) := hall
    clear hall
    by_cases hlt : k < d.size
    · go_wp2
      · exact bodyPost_ret (v := .tuple #[.agg #[.string ⟨#[]⟩, .string ⟨#[]⟩, .string ⟨#[]⟩], .bool false]) (by simp [results, Ybaf.results7, go_sem]) rfl ⟨rfl, (Below.refl _ _).alloc (Nat.le_refl _) _⟩
      · go_round
        case rel =>
          refine ⟨k + 1, by omega, by go_num, fun j hj hjk => ?_⟩
          by_cases hje : j = k
          · subst hje; exact dig_yes _ (by omega) (by omega)
          · exact H.out j hj (by omega)
        case measure => simp [intOf]; omega
      · exact bodyPost_ret (v := .tuple #[.agg #[.string ⟨#[]⟩, .string ⟨#[]⟩, .string ⟨#[]⟩], .bool false]) (by simp [results, Ybaf.results7, go_sem]) rfl ⟨rfl, (Below.refl _ _).alloc (Nat.le_refl _) _⟩
    · have hx := all_yes d fun j hj => H.out j hj (by omega)
      exact absurd (hx.symm.trans HA.out) (by decide)

set_option maxRecDepth 100000 in
set_option maxHeartbeats 400000 in
theorem model_yes2 (s d : ByteArray) (hd : s.extract 5 s.size = d) (h : 5 ≤ s.size) (hp : ((s.extract 0 5).toList == [105, 109, 115, 105, 45]) = true) (hn : ¬ s.size - 5 < 6) (hn1 : ¬ 15 < s.size - 5) (ha : d.data.toList.all dig = true) (w : World) :
    Calls Ybaf.prog 7 #[.string s, .int .i64 2] w fun e w' => e = .returned (.tuple #[.agg #[.string (d.extract 0 3), .string (d.extract 3 5), .string (d.extract 5 d.size)], .bool true]) ∧ Below w.heap.size w w' := by
  have HA : Hid (d.data.toList.all dig = true) := ha
  clear ha
  have h' : decide ((s.size : Int) < 5) = false := by simp; omega
  have h5' : (5 : Int) ≤ (s.size : Int) := by omega
  have hds : d.size = s.size - 5 := by rw [← hd]; simp
  have hn' : decide ((d.size : Int) < 6) = false := by simp; omega
  have hn2 : decide ((15 : Int) < (d.size : Int)) = false := by simp; omega
  have hn3 : d.size ≤ 15 := by omega
  have hn4 : (6 : Int) ≤ (d.size : Int) := by omega
  clear hds
  go_enter Ybaf.func7, Ybaf.ntmps7
  go_wp2
  clear hd hp h h' h5' hn hn1 hn' hn2
  go_loop [8] (fun i => ∃ k : Nat, k ≤ d.size ∧ i = .int .i64 k) (fun i => d.size - (intOf i).toNat)
  case atStart => exact ⟨0, Nat.zero_le _, rfl⟩
  case round =>
    obtain ⟨k, hk, rfl⟩ := hrel
    by_cases hlt : k < d.size
    · obtain ⟨q1, q2⟩ := all_at d HA.out k hlt
      go_wp2
      go_round
      case rel => exact ⟨k + 1, by omega, by go_num⟩
      case measure => simp [intOf]; omega
    · go_wp2
      go_big_region
      go_wp2
      refine bodyPost_ret (v := .tuple #[.agg #[.string (d.extract 0 3), .string (d.extract 3 5), .string (d.extract 5 d.size)], .bool true]) (by simp [results, Ybaf.results7, go_sem]) rfl ⟨rfl, ?_⟩
      exact ((Below.refl _ _).alloc (Nat.le_refl _) _).drew

set_option maxRecDepth 100000 in
set_option maxHeartbeats 400000 in
theorem model_few3 (s : ByteArray) (h : 5 ≤ s.size) (hp : ((s.extract 0 5).toList == [105, 109, 115, 105, 45]) = true) (hn : s.size - 5 < 7) : Refuses s 3 := by
  intro w
  have h' : decide ((s.size : Int) < 5) = false := by simp; omega
  have h5' : (5 : Int) ≤ (s.size : Int) := by omega
  have hn' : ((s.size - 5 : Nat) : Int) < 7 := by omega
  go_enter Ybaf.func7, Ybaf.ntmps7
  go_wp2
  exact bodyPost_ret (v := .tuple #[.agg #[.string ⟨#[]⟩, .string ⟨#[]⟩, .string ⟨#[]⟩], .bool false]) (by simp [results, Ybaf.results7, go_sem]) rfl ⟨rfl, (Below.refl _ _).alloc (Nat.le_refl _) _⟩

set_option maxRecDepth 100000 in
set_option maxHeartbeats 400000 in
theorem model_many3 (s : ByteArray) (h : 5 ≤ s.size) (hp : ((s.extract 0 5).toList == [105, 109, 115, 105, 45]) = true) (hn : 15 < s.size - 5) : Refuses s 3 := by
  intro w
  have h' : decide ((s.size : Int) < 5) = false := by simp; omega
  have h5' : (5 : Int) ≤ (s.size : Int) := by omega
  have hn' : decide (((s.size - 5 : Nat) : Int) < 7) = false := by simp; omega
  have hn2 : (15 : Int) < ((s.size - 5 : Nat) : Int) := by omega
  go_enter Ybaf.func7, Ybaf.ntmps7
  go_wp2
  exact bodyPost_ret (v := .tuple #[.agg #[.string ⟨#[]⟩, .string ⟨#[]⟩, .string ⟨#[]⟩], .bool false]) (by simp [results, Ybaf.results7, go_sem]) rfl ⟨rfl, (Below.refl _ _).alloc (Nat.le_refl _) _⟩

set_option maxRecDepth 100000 in
set_option maxHeartbeats 400000 in
theorem model_no3 (s d : ByteArray) (hd : s.extract 5 s.size = d) (h : 5 ≤ s.size) (hp : ((s.extract 0 5).toList == [105, 109, 115, 105, 45]) = true) (hn : ¬ s.size - 5 < 7) (hn1 : ¬ 15 < s.size - 5) (ha : d.data.toList.all dig = false) : Refuses s 3 := by
  intro w
  have HA : Hid (d.data.toList.all dig = false) := ha
  clear ha
  have h' : decide ((s.size : Int) < 5) = false := by simp; omega
  have h5' : (5 : Int) ≤ (s.size : Int) := by omega
  have hds : d.size = s.size - 5 := by rw [← hd]; simp
  have hn' : decide ((d.size : Int) < 7) = false := by simp; omega
  have hn2 : decide ((15 : Int) < (d.size : Int)) = false := by simp; omega
  have hn3 : d.size ≤ 15 := by omega
  have hn4 : (7 : Int) ≤ (d.size : Int) := by omega
  clear hds
  go_enter Ybaf.func7, Ybaf.ntmps7
  go_wp2
  clear hd hp h h' h5' hn hn1 hn' hn2
  go_loop [8] (fun i => ∃ k : Nat, k ≤ d.size ∧ i = .int .i64 k ∧ ∀ j (h : j < d.size), j < k → dig d[j] = true) (fun i => d.size - (intOf i).toNat)
  case atStart => exact ⟨0, Nat.zero_le _, rfl, fun j _ h => absurd h (Nat.not_lt_zero _)⟩
  case round =>
    obtain ⟨k, hk, rfl, hall⟩ := hrel
    have H : Hid (∀ j (h : j < d.size), j < k → dig d[j] = true) := hall
    clear hall
    by_cases hlt : k < d.size
    · go_wp2
      · exact bodyPost_ret (v := .tuple #[.agg #[.string ⟨#[]⟩, .string ⟨#[]⟩, .string ⟨#[]⟩], .bool false]) (by simp [results, Ybaf.results7, go_sem]) rfl ⟨rfl, (Below.refl _ _).alloc (Nat.le_refl _) _⟩
      · go_round
        case rel =>
          refine ⟨k + 1, by omega, by go_num, fun j hj hjk => ?_⟩
          by_cases hje : j = k
          · subst hje; exact dig_yes _ (by omega) (by omega)
          · exact H.out j hj (by omega)
        case measure => simp [intOf]; omega
      · exact bodyPost_ret (v := .tuple #[.agg #[.string ⟨#[]⟩, .string ⟨#[]⟩, .string ⟨#[]⟩], .bool false]) (by simp [results, Ybaf.results7, go_sem]) rfl ⟨rfl, (Below.refl _ _).alloc (Nat.le_refl _) _⟩
    · have hx := all_yes d fun j hj => H.out j hj (by omega)
      exact absurd (hx.symm.trans HA.out) (by decide)

set_option maxRecDepth 100000 in
set_option maxHeartbeats 400000 in
theorem model_yes3 (s d : ByteArray) (hd : s.extract 5 s.size = d) (h : 5 ≤ s.size) (hp : ((s.extract 0 5).toList == [105, 109, 115, 105, 45]) = true) (hn : ¬ s.size - 5 < 7) (hn1 : ¬ 15 < s.size - 5) (ha : d.data.toList.all dig = true) (w : World) :
    Calls Ybaf.prog 7 #[.string s, .int .i64 3] w fun e w' => e = .returned (.tuple #[.agg #[.string (d.extract 0 3), .string (d.extract 3 6), .string (d.extract 6 d.size)], .bool true]) ∧ Below w.heap.size w w' := by
  have HA : Hid (d.data.toList.all dig = true) := ha
  clear ha
  have h' : decide ((s.size : Int) < 5) = false := by simp; omega
  have h5' : (5 : Int) ≤ (s.size : Int) := by omega
  have hds : d.size = s.size - 5 := by rw [← hd]; simp
  have hn' : decide ((d.size : Int) < 7) = false := by simp; omega
  have hn2 : decide ((15 : Int) < (d.size : Int)) = false := by simp; omega
  have hn3 : d.size ≤ 15 := by omega
  have hn4 : (7 : Int) ≤ (d.size : Int) := by omega
  clear hds
  go_enter Ybaf.func7, Ybaf.ntmps7
  go_wp2
  clear hd hp h h' h5' hn hn1 hn' hn2
  go_loop [8] (fun i => ∃ k : Nat, k ≤ d.size ∧ i = .int .i64 k) (fun i => d.size - (intOf i).toNat)
  case atStart => exact ⟨0, Nat.zero_le _, rfl⟩
  case round =>
    obtain ⟨k, hk, rfl⟩ := hrel
    by_cases hlt : k < d.size
    · obtain ⟨q1, q2⟩ := all_at d HA.out k hlt
      go_wp2
      go_round
      case rel => exact ⟨k + 1, by omega, by go_num⟩
      case measure => simp [intOf]; omega
    · go_wp2
      go_big_region
      go_wp2
      refine bodyPost_ret (v := .tuple #[.agg #[.string (d.extract 0 3), .string (d.extract 3 6), .string (d.extract 6 d.size)], .bool true]) (by simp [results, Ybaf.results7, go_sem]) rfl ⟨rfl, ?_⟩
      exact ((Below.refl _ _).alloc (Nat.le_refl _) _).drew
end Go.Proofs.YbulkcgwaFmt
