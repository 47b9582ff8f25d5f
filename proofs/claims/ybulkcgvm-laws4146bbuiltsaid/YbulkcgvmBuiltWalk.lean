import Derived.Test.YbulkcgvmField
import Derived.Laws.BytesArg
import Derived.Laws.OwnMore
import Derived.OwnWalk
/-! The walk of 'LawS4146BBuilt' (function 5). -/
namespace Go.Proofs.Ybulkcgvm
open Go.ChangeShapes Go.WideShapes Go.ChangeAt Go.RowKit

/-- what the law makes of a raw byte -/
def ch (z : Int) : Int := 32 + z % 96
def good (z : Int) : Bool := !(ch z == 32 || ch z == 127)
def okUp (zs : List Int) : Nat → Bool
  | 0 => true
  | k + 1 => okUp zs k && good (zs.getD k 0)

theorem okUp_bad (zs : List Int) (k : Nat) (z : Int) (hz : z = zs.getD k 0) (h : ch z = 32 ∨ ch z = 127) : okUp zs (k + 1) = false := by
  subst hz
  simp only [okUp, good, Bool.and_eq_false_iff]
  right
  rcases h with h | h <;> rw [h] <;> rfl
theorem okUp_good (zs : List Int) (k : Nat) (z : Int) (hz : z = zs.getD k 0) (h1 : ¬ ch z = 32) (h2 : ¬ ch z = 127) : okUp zs (k + 1) = okUp zs k := by
  subst hz
  simp only [okUp, good]
  rw [beq_eq_false_iff_ne.2 h1, beq_eq_false_iff_ne.2 h2]
  simp

/-- the bytes that the law writes, as the string's bytes -/
theorem okUp_all (zs : List Int) (hwf : ∀ i, 0 ≤ zs.getD i 0 ∧ zs.getD i 0 ≤ 255) : ∀ k, k ≤ zs.length →
    ((strOfNums ((zs.take k).map ch)).data.toList.all okByte) = okUp zs k
  | 0, _ => by simp [strOfNums, okUp]
  | k + 1, h => by
    have ih := okUp_all zs hwf k (by omega)
    rw [strOfNums_data] at ih ⊢
    rw [List.take_succ_eq_append_getElem (by omega), List.map_append, List.map_append, List.all_append, ih]
    simp only [okUp, List.map_cons, List.map_nil, List.all_cons, List.all_nil, Bool.and_true]
    have e : zs.getD k 0 = zs[k] := by simp [List.getD, List.getElem?_eq_getElem (show k < zs.length by omega)]
    have hb := hwf k
    rw [e] at hb
    rw [e]
    congr 1
    have hc : 32 ≤ ch zs[k] ∧ ch zs[k] ≤ 127 := by unfold ch; omega
    have hn : (UInt8.ofNat (ch zs[k]).toNat).toNat = (ch zs[k]).toNat := by
      rw [UInt8.toNat_ofNat']; omega
    unfold okByte good
    rw [hn]
    rw [Bool.eq_iff_iff]
    simp
    omega

theorem field_built (zs : List Int) (hwf : ∀ i, 0 ≤ zs.getD i 0 ∧ zs.getD i 0 ≤ 255) (n : Nat) (h0 : 0 < n) (hn : n ≤ zs.length) (k : Int) :
    fieldB (strOfNums ((zs.take n).map ch)) ((n : Int) + k) = (decide (0 ≤ k) && okUp zs n) := by
  unfold fieldB
  rw [okUp_all zs hwf n hn, strOfNums_size]
  simp only [List.length_map, List.length_take]
  rw [Nat.min_eq_left hn, decide_eq_true h0, Bool.true_and]
  congr 1
  rw [Bool.eq_iff_iff]
  simp
  omega

/-- one round of the law's loop, in plain words -/
theorem built_step {w wr : World} {n k : Nat} {zs : List Int} {xs : List Value} (c : Int) (hc : c = ch (zs.getD k 0)) (hk : k < n)
    (hown : wr.ownsRow w.heap.size 5 1 (.slice (some ⟨w.heap.size, 0, none⟩) n n) n xs)
    (hxs : ∀ j, j < k → xs[j]? = some (.int .u8 (ch (zs.getD j 0)))) (hbw : Below w.heap.size w wr) :
    ∃ ys, (wr.setCell ⟨w.heap.size, k, none⟩ (.int .u8 c)).ownsRow w.heap.size 5 1 (.slice (some ⟨w.heap.size, 0, none⟩) n n) n ys ∧
      (∀ j, j < k + 1 → ys[j]? = some (.int .u8 (ch (zs.getD j 0)))) ∧ Below w.heap.size w (wr.setCell ⟨w.heap.size, k, none⟩ (.int .u8 c)) := by
  have hl := hown.1
  refine ⟨xs.set k (.int .u8 c), (hown.stored k _).1, fun j hj => ?_, hbw.setCell (Nat.le_refl _) _⟩
  by_cases hjk : j = k
  · subst hjk
    rw [List.getElem?_set_self (by omega), hc]
  · rw [List.getElem?_set_ne (by omega)]
    exact hxs j (by omega)

theorem built_cells {w wr : World} {n : Nat} {zs : List Int} {xs : List Value} (hz : n ≤ zs.length)
    (hown : wr.ownsRow w.heap.size 5 1 (.slice (some ⟨w.heap.size, 0, none⟩) n n) n xs)
    (hxs : ∀ j, j < n → xs[j]? = some (.int .u8 (ch (zs.getD j 0)))) :
    ∀ i, i < n → wr.cell? ⟨w.heap.size, 0 + i, none⟩ = some (.int .u8 (((zs.take n).map ch).getD i 0)) := by
  intro i hi
  rw [Nat.zero_add, hown.cellAt i (by omega), hxs i hi]
  have e : ((zs.take n).map ch).getD i 0 = ch (zs.getD i 0) := by
    simp [List.getD, List.getElem?_map, hi, List.getElem?_eq_getElem (show i < zs.length by omega)]
  rw [e]

theorem Yba.info5 : (Yba.prog.info? 5).map (fun i => (i.zero, i.size, i.bytes)) = some (some (.int .u8 0), 1, 1) := by kernel_rfl

set_option maxHeartbeats 400000 in
theorem built_pos (b off n cap : Nat) (zs : List Int) (d : Int) (w : World) (hn0 : 0 < n) (hn : n ≤ 4096) (hz : n ≤ zs.length)
    (hc : ∀ i, i < zs.length → w.cell? ⟨b, off + i, none⟩ = some (.int .u8 (zs.getD i 0))) (hb : b < w.heap.size)
    (hwf : ∀ i, 0 ≤ zs.getD i 0 ∧ zs.getD i 0 ≤ 255) (hd0 : 0 ≤ d) (hd1 : d ≤ 255) :
    Calls Yba.prog 5 #[.slice (some ⟨b, off, none⟩) n cap, .int .u8 d] w fun e w' => e = .returned (.bool true) ∧ Below w.heap.size w w' := by
  obtain ⟨i0, hi, hz0, hz1, hz2⟩ := info_parts Yba.info5
  have hlen : (0 : Int) < (n : Int) := by omega
  have hd : decide ((4096 : Int) < (n : Int)) = false := by simp; omega
  have FB : Hid (∀ k, fieldB (strOfNums ((zs.take n).map ch)) ((n : Int) + k) = (decide (0 ≤ k) && okUp zs n)) := field_built zs hwf n hn0 hz
  have HWF : Hid (∀ i, 0 ≤ zs.getD i 0 ∧ zs.getD i 0 ≤ 255) := hwf
  have HC : Hid (∀ i, i < zs.length → w.cell? ⟨b, off + i, none⟩ = some (.int .u8 (zs.getD i 0))) := hc
  clear hwf hc
  go_enter Yba.func5, Yba.ntmps5
  go_wp2_with (at_make; refine wpList_make_full _ rfl _ _ 23 rfl w.heap.size 5 i0 (.int .u8 0) 1 Yba.underlying23 hi hz0 hz1 .i64 .i64 _ _ n rfl rfl rfl rfl (by rw [hz2]; omega) (by unfold maxLen; omega) (Nat.le_refl _) ?_; intro w1 hown hgrow)
  have hbel : Below w.heap.size w w1 := (Below.refl _ _).grown hgrow (Nat.le_refl _) (by simp)
  have HO : Hid (w1.ownsRow w.heap.size 5 1 (.slice (some ⟨w.heap.size, 0, none⟩) n n) n (madeCells (Value.cells (.int .u8 0)) (n * 1)).toList) := hown
  clear hown hgrow hi hz0 hz1 hz2
  go_loopw [6, 7] (fun t i wr => ∃ (k : Nat) (xs : List Value), k ≤ n ∧ i = .int .i64 k ∧ t = .bool (okUp zs k) ∧ wr.ownsRow w.heap.size 5 1 (.slice (some ⟨w.heap.size, 0, none⟩) n n) n xs ∧
      (∀ j, j < k → xs[j]? = some (.int .u8 (ch (zs.getD j 0)))) ∧ Below w.heap.size w wr) (fun _ i _ => n - (intOf i).toNat)
  case atStart => exact ⟨0, _, Nat.zero_le _, rfl, rfl, HO.out, fun j hj => absurd hj (Nat.not_lt_zero _), hbel⟩
  case round =>
    clear HO
    obtain ⟨k, xs, hk, rfl, rfl, hown, hxs, hbw⟩ := hrel
    have HX : Hid (∀ j, j < k → xs[j]? = some (.int .u8 (ch (zs.getD j 0)))) := hxs
    clear hxs
    by_cases hlt : k < n
    · obtain ⟨z, hzk⟩ : ∃ z, z = zs.getD k 0 := ⟨_, rfl⟩
      have hcell : wr.cell? ⟨b, off + k, none⟩ = some (.int .u8 z) := by rw [hzk]; exact (hbw.cell (by exact hb)).trans (HC.out k (by omega))
      have hzb : 0 ≤ z ∧ z ≤ 255 := by rw [hzk]; exact HWF.out k
      obtain ⟨hzl, hzu⟩ := hzb
      have HZ : Hid (z = zs.getD k 0) := hzk
      clear hzk
      have hxl : k < xs.length := by have := hown.1; omega
      have hold : wr.cell? ⟨w.heap.size, k, none⟩ = some xs[k] := by rw [hown.cellAt k (by omega), List.getElem?_eq_getElem hxl]
      have hfr : wr.frozen? ⟨w.heap.size, k, none⟩ = false := hown.frozenAt k
      have HO : Hid (wr.ownsRow w.heap.size 5 1 (.slice (some ⟨w.heap.size, 0, none⟩) n n) n xs) := hown
      clear hown
      go_wp2
      · obtain ⟨ys, r1, r2, r3⟩ := built_step 32 (by rw [← HZ.out]; unfold ch; omega) hlt HO.out HX.out hbw
        have hb2 := okUp_bad zs k z HZ.out (.inl (by unfold ch; omega))
        go_roundw
        case rel => exact ⟨k + 1, ys, by omega, by go_num, by rw [hb2], r1, r2, r3⟩
        case measure => simp [intOf]; omega
      · obtain ⟨ys, r1, r2, r3⟩ := built_step (32 + z % 96) (by rw [← HZ.out]; unfold ch; omega) hlt HO.out HX.out hbw
        have hb2 : Hid (okUp zs (k + 1) = false) := by
          refine okUp_bad zs k z HZ.out ?_
          have h : (32 + z % 96 == 32) = true ∨ (32 + z % 96 == 127) = true := by assumption
          simpa [ch] using h
        go_roundw
        case rel => exact ⟨k + 1, ys, by omega, by go_num, by rw [hb2.out], r1, r2, r3⟩
        case measure => simp [intOf]; omega
      · obtain ⟨ys, r1, r2, r3⟩ := built_step (32 + z % 96) (by rw [← HZ.out]; unfold ch; omega) hlt HO.out HX.out hbw
        have hb2 : Hid (okUp zs (k + 1) = okUp zs k) := by
          have h : (32 + z % 96 == 32) = false ∧ (32 + z % 96 == 127) = false := by assumption
          have h' : ¬ 32 + z % 96 = 32 ∧ ¬ 32 + z % 96 = 127 := by simpa using h
          exact okUp_good zs k z HZ.out h'.1 h'.2
        go_roundw
        case rel => exact ⟨k + 1, ys, by omega, by go_num, by rw [hb2.out], r1, r2, r3⟩
        case measure => simp [intOf]; omega
    · obtain rfl : k = n := by omega
      have hcv := run_convert_bytes_arg (P := Yba.prog) wr 23 5 Yba.underlying23 Yba.underlying5 w.heap.size 0 k k ((zs.take k).map ch) (by simp; omega) (built_cells hz hown HX.out) 9 Yba.underlying9
      have hsz : (strOfNums ((zs.take k).map ch)).size ≤ maxLen := by rw [strOfNums_size]; simp only [List.length_map, List.length_take]; unfold maxLen; omega
      generalize strOfNums ((zs.take k).map ch) = S at *
      by_cases hneg : d % 7 - 3 < 0
      · have F : Hid (fieldB S ((k : Int) + (d % 7 - 3)) = false) := by
          rw [FB.out, decide_eq_false (by omega)]; rfl
        go_wp2_with fail
        refine (field_calls S _ _ hsz).mono ?_
        rintro e w' ⟨rfl, rfl⟩
        go_wp2_with fail
        go_ret
        exact ⟨ret_bool (by rw [F.out]; rfl), hbw⟩
      · have F : Hid (fieldB S ((k : Int) + (d % 7 - 3)) = okUp zs k) := by
          rw [FB.out, decide_eq_true (by omega), Bool.true_and]; rfl
        go_wp2_with fail
        refine (field_calls S _ _ hsz).mono ?_
        rintro e w' ⟨rfl, rfl⟩
        go_wp2_with fail
        go_ret
        exact ⟨ret_bool (by rw [F.out]; simp), hbw⟩

set_option maxHeartbeats 400000 in
theorem built_none (a : Option Addr) (cap : Nat) (d : Int) (w : World) (hd0 : 0 ≤ d) (hd1 : d ≤ 255) :
    Calls Yba.prog 5 #[.slice a 0 cap, .int .u8 d] w fun e w' => e = .returned (.bool true) ∧ Below w.heap.size w w' := by
  obtain ⟨i0, hi, hz0, hz1, hz2⟩ := info_parts Yba.info5
  have F : Hid (∀ k, fieldB (strOfNums []) k = false) := fun k => field_empty _ _ (by simp [strOfNums_size])
  have hsz : (strOfNums []).size ≤ maxLen := by rw [strOfNums_size]; simp
  go_enter Yba.func5, Yba.ntmps5
  go_wp2_with (at_make; refine wpList_make_full _ rfl _ _ 23 rfl w.heap.size 5 i0 (.int .u8 0) 1 Yba.underlying23 hi hz0 hz1 .i64 .i64 _ _ 0 rfl rfl rfl rfl (by omega) (by unfold maxLen; omega) (Nat.le_refl _) ?_; intro w1 hown hgrow)
  have hbel : Below w.heap.size w w1 := (Below.refl _ _).grown hgrow (Nat.le_refl _) (by simp)
  clear hown hgrow hi hz0 hz1 hz2
  have hcv := run_convert_bytes_arg (P := Yba.prog) w1 23 5 Yba.underlying23 Yba.underlying5 w.heap.size 0 0 0 [] rfl (fun i hi => absurd hi (Nat.not_lt_zero _)) 9 Yba.underlying9
  generalize strOfNums [] = S at *
  refine wp_loop_rounds 1 ?_
  rw [rounds_succ]
  by_cases hneg : d % 7 - 3 < 0
  · go_wp2_with fail
    refine (field_calls S _ _ hsz).mono ?_
    rintro e w' ⟨rfl, rfl⟩
    go_wp2_with fail
    go_ret
    exact ⟨ret_bool (by rw [F.out]; rfl), hbel⟩
  · go_wp2_with fail
    refine (field_calls S _ _ hsz).mono ?_
    rintro e w' ⟨rfl, rfl⟩
    go_wp2_with fail
    go_ret
    exact ⟨ret_bool (by rw [F.out]; rfl), hbel⟩

set_option maxHeartbeats 400000 in
theorem built_long (a : Option Addr) (n cap : Nat) (d : Int) (w : World) (hn : 4096 < n) :
    Calls Yba.prog 5 #[.slice a n cap, .int .u8 d] w fun e w' => e = .returned (.bool true) ∧ Below w.heap.size w w' := by
  have h : (4096 : Int) < (n : Int) := by omega
  go_enter Yba.func5, Yba.ntmps5
  go_wp2
  go_ret
  exact ⟨rfl, Below.refl _ _⟩
end Go.Proofs.Ybulkcgvm
