import Derived.Test.YbulkcgvmAdd
/-! The contract of '(*frameReader).keep' (function 6). -/
namespace Go.Proofs.Ybulkcgvm
open Go.ChangeShapes Go.WideShapes Go.ChangeAt Go.RowKit

/-- a slice of the call's own that lies below block F and reads X -/
def Lies (w : World) (F : Nat) (ao : Option Addr) (n : Nat) (X : List Int) : Prop :=
  X.length = n ∧ (0 < n → ∃ g, ao = some ⟨g, 0, none⟩ ∧ g < F ∧ ∀ j, j < n → w.cell? ⟨g, j, none⟩ = some (.int .u8 (X.getD j 0)))

theorem Lies.on {w w' : World} {F : Nat} {ao : Option Addr} {n : Nat} {X : List Int} (h : Lies w F ao n X) (hc : ∀ p : Addr, p.block < F → w'.cell? p = w.cell? p) : Lies w' F ao n X :=
  ⟨h.1, fun h0 => by
    obtain ⟨g, e, hg, hx⟩ := h.2 h0
    exact ⟨g, e, hg, fun j hj => by rw [hc _ hg]; exact hx j hj⟩⟩

theorem Lies.take {w : World} {F : Nat} {ao : Option Addr} {n k : Nat} {X : List Int} (h : Lies w F ao n X) (hk : k < n) : Lies w F ao k (X.take k) :=
  ⟨by rw [List.length_take, h.1]; omega, fun h0 => by
    obtain ⟨g, e, hg, hx⟩ := h.2 (by omega)
    refine ⟨g, e, hg, fun j hj => ?_⟩
    rw [hx j (by omega)]
    simp [List.getD, hj]⟩

def AddPost (w w' : World) (F n k : Nat) (X Y : List Int) : Prop :=
  ∃ ao c, w'.cell? ⟨F, 3, none⟩ = some (.slice ao (n + k) c) ∧ (0 < n + k → ∃ g, ao = some ⟨g, 0, none⟩ ∧ ∀ j, j < n + k → w'.cell? ⟨g, j, none⟩ = some (.int .u8 ((X ++ Y).getD j 0))) ∧
    w.grownBy w' (some F)

theorem add_any (F n lb cb : Nat) (am ab : Option Addr) (X Y : List Int) (L : Int) (w : World)
    (h3 : w.cell? ⟨F, 3, none⟩ = some (.slice am n n)) (f3 : w.frozen? ⟨F, 3, none⟩ = false) (hX : Lies w F am n X) (hY : Lies w F ab lb Y)
    (hL : (n : Int) + (lb : Int) ≤ L) (hL2 : L ≤ 4096) :
    Calls Yba.prog 9 #[.pointer (some ⟨F, 0, none⟩), .slice ab lb cb, .int .i64 L] w fun e w' => e = .returned (.tuple #[]) ∧ AddPost w w' F n lb X Y := by
  have hF : F < w.heap.size := World.block_lt_of_cell? w _ h3
  by_cases hl0 : lb = 0
  · subst hl0
    refine (add_same F n cb am ab L w (by omega) h3 f3).mono fun e w' ⟨he, hc, hg⟩ => ⟨he, am, n, hc, fun h0 => ?_, hg⟩
    obtain ⟨g, rfl, hgF, hx⟩ := hX.2 (by omega)
    refine ⟨g, rfl, fun j hj => ?_⟩
    have hY0 : Y = [] := List.eq_nil_of_length_eq_zero hY.1
    subst hY0
    rw [List.append_nil]
    exact hg.cell (hx j (by omega)) (by simp; omega)
  · obtain ⟨b, rfl, hbF, hy⟩ := hY.2 (by omega)
    obtain ⟨c, hc⟩ : ∃ c : Nat, min (max ((n : Int) + (lb : Int)) (2 * (n : Int))) L = (c : Int) := ⟨(min (max ((n : Int) + (lb : Int)) (2 * (n : Int))) L).toNat, by omega⟩
    refine (add_grow F n lb cb c am ⟨b, 0, none⟩ X Y L w h3 f3 hX.1 (fun h0 => ?_) hY.1 (fun j hj => ?_) (by simp; omega) (by omega) hL hL2 hc).mono fun e w' ⟨he, r1, r2, r3⟩ => ⟨he, _, c, r1, fun _ => ⟨_, rfl, r2⟩, r3⟩
    · obtain ⟨g, rfl, hgF, hx⟩ := hX.2 h0
      exact ⟨_, rfl, fun j hj => by rw [Addr.add_lit, Nat.zero_add]; exact hx j hj⟩
    · rw [Addr.add_lit, Nat.zero_add]; exact hy j hj

def KeepPost (w w' : World) (F O n k : Nat) (X Y : List Int) (ov : Bool) : Prop :=
  ∃ ao c, w'.cell? ⟨F, 3, none⟩ = some (.slice ao (n + k) c) ∧ (0 < n + k → ∃ g, ao = some ⟨g, 0, none⟩ ∧ ∀ j, j < n + k → w'.cell? ⟨g, j, none⟩ = some (.int .u8 ((X ++ Y).getD j 0))) ∧
    w'.cell? ⟨O, 0, none⟩ = some (.bool ov) ∧ Below F w w'

theorem keep_of_add {w w1 w' : World} {F O n k : Nat} {X Y : List Int} {ov : Bool} (hFO : F < O) (hO : w1.cell? ⟨O, 0, none⟩ = some (.bool ov)) (hb : Below F w w1) (hF : F ≤ w1.heap.size)
    (h : AddPost w1 w' F n k X Y) : KeepPost w w' F O n k X Y ov := by
  obtain ⟨ao, c, r1, r2, r3⟩ := h
  exact ⟨ao, c, r1, r2, r3.cell hO (by simp; omega), hb.grown r3 hF (by simp)⟩

theorem below_drewN (B : Nat) (w : World) : ∀ n, Below B w (w.drewN n)
  | 0 => Below.refl _ _
  | n + 1 => (below_drewN B w n).drew

set_option maxHeartbeats 400000 in
theorem keep_fit (F O n lb cb : Nat) (am ab : Option Addr) (X Y : List Int) (mx : Int) (ov : Bool) (w : World) (hFO : F < O)
    (h2 : w.cell? ⟨F, 2, none⟩ = some (.int .i64 mx)) (h3 : w.cell? ⟨F, 3, none⟩ = some (.slice am n n)) (f3 : w.frozen? ⟨F, 3, none⟩ = false)
    (hO : w.cell? ⟨O, 0, none⟩ = some (.bool ov)) (hX : Lies w F am n X) (hY : Lies w F ab lb Y)
    (hm0 : 0 ≤ mx) (hm1 : mx ≤ 4095) (hfit : (n : Int) + (lb : Int) ≤ mx + 1) :
    Calls Yba.prog 6 #[.pointer (some ⟨F, 0, none⟩), .slice ab lb cb, .pointer (some ⟨O, 0, none⟩)] w fun e w' => e = .returned (.tuple #[]) ∧ KeepPost w w' F O n lb X Y ov := by
  have hno : ¬ mx + 1 - (n : Int) < (lb : Int) := by omega
  go_enter Yba.func6, Yba.ntmps6
  go_wp2
  go_quiet (fail)
  go_wp2_with fail
  have hbd := below_drewN w.heap.size w nq
  refine (add_any F n lb cb am ab X Y (mx + 1) (w.drewN nq) (by simpa using h3) (by simpa using f3) (hX.on fun p _ => by simp) (hY.on fun p _ => by simp) hfit (by omega)).mono ?_
  rintro e w' ⟨rfl, hp⟩
  have R : Hid (KeepPost w w' F O n lb X Y ov) := keep_of_add hFO (by simpa using hO) (below_drewN F w nq) (by have := World.block_lt_of_cell? w _ h3; simp at this ⊢; omega) hp
  clear hp hbd
  go_wp2_with fail
  go_end0
  exact ⟨rfl, R.out⟩

set_option maxHeartbeats 400000 in
theorem keep_over (F O n lb cb k : Nat) (am ab : Option Addr) (X Y : List Int) (mx : Int) (ov : Bool) (w : World) (hFO : F < O)
    (h2 : w.cell? ⟨F, 2, none⟩ = some (.int .i64 mx)) (h3 : w.cell? ⟨F, 3, none⟩ = some (.slice am n n)) (f3 : w.frozen? ⟨F, 3, none⟩ = false)
    (hO : w.cell? ⟨O, 0, none⟩ = some (.bool ov)) (fO : w.frozen? ⟨O, 0, none⟩ = false) (hX : Lies w F am n X) (hY : Lies w F ab lb Y) (hlc : lb ≤ cb)
    (hm0 : 0 ≤ mx) (hm1 : mx ≤ 4095) (hn : (n : Int) + (k : Int) = mx + 1) (hk : k < lb) :
    Calls Yba.prog 6 #[.pointer (some ⟨F, 0, none⟩), .slice ab lb cb, .pointer (some ⟨O, 0, none⟩)] w fun e w' => e = .returned (.tuple #[]) ∧ KeepPost w w' F O n k X (Y.take k) true := by
  have hyes : mx + 1 - (n : Int) < (lb : Int) := by omega
  have hrm : mx + 1 - (n : Int) = (k : Int) := by omega
  have HN : Hid ((n : Int) + (k : Int) = mx + 1) := hn
  clear hn
  go_enter Yba.func6, Yba.ntmps6
  go_wp2
  go_quiet (fail)
  go_wp2_with fail
  have hcO : ∀ p : Addr, p.block < F → ((w.drewN nq).setCell ⟨O, 0, none⟩ (.bool true)).cell? p = w.cell? p := fun p hp => cell_setCell_block _ (by simp; omega)
  refine (add_any F n k cb am ab X (Y.take k) (mx + 1) ((w.drewN nq).setCell ⟨O, 0, none⟩ (.bool true)) ?a1 ?a2 (hX.on hcO) ?a3 ?a4 (by omega)).mono ?_
  case a1 => exact (cell_setCell_block _ (by simp; omega)).trans h3
  case a2 => exact (frozen_setCell_block _ (by simp; omega)).trans f3
  case a3 => exact (hY.on hcO).take hk
  case a4 => have := HN.out; omega
  rintro e w' ⟨rfl, hp⟩
  have R : Hid (KeepPost w w' F O n k X (Y.take k) true) := by
    refine keep_of_add hFO (World.cell?_setCell_same (w.drewN nq) _ _ hO) ((below_drewN F w nq).setCell (by simp; omega) _) ?_ hp
    have := World.block_lt_of_cell? w _ h3
    simp [World.setCell] at this ⊢
    omega
  clear hp
  go_wp2_with fail
  go_end0
  exact ⟨rfl, R.out⟩

/-- Both ways in one. 'k': what is kept of b. -/
theorem keep_any (F O n lb cb k : Nat) (am ab : Option Addr) (X Y : List Int) (mx : Int) (ov : Bool) (w : World) (hFO : F < O)
    (h2 : w.cell? ⟨F, 2, none⟩ = some (.int .i64 mx)) (h3 : w.cell? ⟨F, 3, none⟩ = some (.slice am n n)) (f3 : w.frozen? ⟨F, 3, none⟩ = false)
    (hO : w.cell? ⟨O, 0, none⟩ = some (.bool ov)) (fO : w.frozen? ⟨O, 0, none⟩ = false) (hX : Lies w F am n X) (hY : Lies w F ab lb Y) (hlc : lb ≤ cb)
    (hm0 : 0 ≤ mx) (hm1 : mx ≤ 4095) (_hn : (n : Int) ≤ mx + 1) (hk : (k : Int) = min (lb : Int) (mx + 1 - n)) :
    Calls Yba.prog 6 #[.pointer (some ⟨F, 0, none⟩), .slice ab lb cb, .pointer (some ⟨O, 0, none⟩)] w fun e w' => e = .returned (.tuple #[]) ∧ KeepPost w w' F O n k X (Y.take k) (ov || decide (mx + 1 - (n : Int) < (lb : Int))) := by
  by_cases h : mx + 1 - (n : Int) < (lb : Int)
  · rw [decide_eq_true h, Bool.or_true]
    exact keep_over F O n lb cb k am ab X Y mx ov w hFO h2 h3 f3 hO fO hX hY hlc hm0 hm1 (by omega) (by omega)
  · obtain rfl : k = lb := by omega
    rw [decide_eq_false h, Bool.or_false, List.take_of_length_le (by rw [hY.1]; exact Nat.le_refl _)]
    exact keep_fit F O n k cb am ab X Y mx ov w hFO h2 h3 f3 hO hX hY hm0 hm1 (by omega)
end Go.Proofs.Ybulkcgvm
