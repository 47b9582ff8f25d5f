import Derived.Test.YbulkcgwaFmtPlain
import Derived.Lib.AppendStr
import Derived.Laws.BytesArg
import Derived.OwnWalk
/-! The walk of 'LawS4147CBuilt' (function 4). -/
namespace Go.Proofs.YbulkcgwaFmt
open Go.RowKit Go.Extern.Stop Go.Stop Go.Extern

/-- what the law makes of a datum -/
def cc (z : Int) : Int := if 250 ≤ z then 120 else 48 + z % 10

/-- what the walk is told of a byte slice that came in -/
def Came (w : World) (a : Option Addr) (len : Nat) (zs : List Int) : Prop :=
  len ≤ zs.length ∧ (∀ i, 0 ≤ zs.getD i 0 ∧ zs.getD i 0 ≤ 255) ∧
  (0 < len → ∃ b off, a = some ⟨b, off, none⟩ ∧ b < w.heap.size ∧ ∀ j, j < len → w.cell? ⟨b, off + j, none⟩ = some (.int .u8 (zs.getD j 0)))

theorem Ybaf.info5 : (Ybaf.prog.info? 5).map (fun i => (i.zero, i.size, i.bytes)) = some (some (.int .u8 0), 1, 1) := by kernel_rfl

/-- the string of an owned row of bytes -/
theorem convert_own {w : World} {B n : Nat} {v : Value} {L : List Int} (h : w.ownsRow B 5 1 v n (L.map (Value.int .u8))) : (convert 23 9 v).run Ybaf.prog w = .ok (.string (strOfNums L)) w := by
  have hl : L.length = n := by simpa using h.1
  rcases h.2 with ⟨rfl, rfl⟩ | ⟨g, cap, cur, rfl, hb, hg, hnc, hcm, hcs, htake⟩
  · obtain rfl : L = [] := List.eq_nil_of_length_eq_zero hl
    exact run_convert_bytes_nil (P := Ybaf.prog) w 23 5 Ybaf.underlying23 Ybaf.underlying5 0 0 9 Ybaf.underlying9
  · refine run_convert_bytes_arg (P := Ybaf.prog) w 23 5 Ybaf.underlying23 Ybaf.underlying5 g 0 n cap L hl (fun i hi => ?_) 9 Ybaf.underlying9
    rw [Nat.zero_add, h.cellAt i (by omega), List.getElem?_map]
    simp [List.getD, List.getElem?_eq_getElem (show i < L.length by omega)]

/-- one round of the law's loop, in plain words -/
theorem built_step {w wr w1 : World} {k : Nat} {P zs : List Int} {v v' : Value} {o : Obj} {z c : Int} (hz : z = zs.getD k 0) (hk : k < zs.length) (hc : c = cc z) (hbw : Below w.heap.size w wr)
    (hown : wr.ownsRow w.heap.size 5 1 v (P.length + k) ((P ++ (zs.take k).map cc).map (Value.int .u8)))
    (hown' : w1.ownsRow w.heap.size 5 1 v' (P.length + k + 1) ((P ++ (zs.take k).map cc).map (Value.int .u8) ++ [.int .u8 c])) (hgrow : (wr.alloc o).grownBy w1 v.ownBlock) :
    w1.ownsRow w.heap.size 5 1 v' (P.length + (k + 1)) ((P ++ (zs.take (k + 1)).map cc).map (Value.int .u8)) ∧ Below w.heap.size w w1 := by
  refine ⟨?_, (hbw.alloc hbw.size o).grown hgrow (by have := hbw.size; simp; omega) (fun j hj => (hown.lt j hj).1)⟩
  have e : (P ++ (zs.take (k + 1)).map cc).map (Value.int .u8) = (P ++ (zs.take k).map cc).map (Value.int .u8) ++ [.int .u8 c] := by
    have hz' : z = zs[k] := by rw [hz]; simp [List.getD, List.getElem?_eq_getElem hk]
    have e2 : P ++ (zs.take (k + 1)).map cc = (P ++ (zs.take k).map cc) ++ [c] := by
      rw [List.take_succ_eq_append_getElem hk, List.map_append, List.append_assoc, hc, hz']
      rfl
    rw [e2, List.map_append]
    rfl
  rw [e]
  exact hown'

set_option maxRecDepth 100000 in
set_option maxHeartbeats 400000 in
theorem built_walk (F : Interp) (a : Option Addr) (n cap : Nat) (zs : List Int) (m : Int) (np : Bool) (w : World) (hF : F.answers w.tape) (hn : n ≤ 1024) (hC : Came w a n zs) (hm0 : 0 ≤ m) (hm1 : m ≤ 255) :
    Calls Ybaf.prog 4 #[.slice a n cap, .int .u8 m, .bool np] w fun e w' => e = .returned (.bool true) ∧ Below w.heap.size w w' := by
  obtain ⟨i0, hi, hz0, hz1, hz2⟩ := info_parts Ybaf.info5
  have hd : decide ((1024 : Int) < (n : Int)) = false := by simp; omega
  obtain ⟨P, hP⟩ : ∃ P : List Int, P = if np then [] else [105, 109, 115, 105, 45] := ⟨_, rfl⟩
  have hPl : P.length ≤ 5 := by rw [hP]; cases np <;> simp
  have HP : Hid (P = if np then [] else [105, 109, 115, 105, 45]) := hP
  have HC : Hid (Came w a n zs) := hC
  clear hP hC
  go_enter Ybaf.func4, Ybaf.ntmps4
  go_upto_if 19 with (at_make; refine wpList_make_own _ rfl _ _ 23 rfl w.heap.size 5 i0 (.int .u8 0) 1 Ybaf.underlying23 hi hz0 hz1 .i64 .i64 _ (n + 5) rfl rfl (by omega) (by rw [hz2]; omega) (by unfold maxLen; omega) (Nat.le_refl _) ?_; intro w1 hown hgrow)
  have HB1 : Hid (Below w.heap.size w w1) := (Below.refl _ _).grown hgrow (Nat.le_refl _) (by simp)
  have HO1 : Hid (w1.ownsRow w.heap.size 5 1 (.slice (some ⟨w.heap.size, 0, none⟩) 0 (n + 5)) 0 []) := hown
  clear hown hgrow
  go_cut [2, 7] (fun t v wx => t = .bool np ∧ wx.ownsRow w.heap.size 5 1 v P.length (P.map (Value.int .u8)) ∧ Below w.heap.size w wx)
  case first =>
    cases np with
    | true =>
      obtain rfl : P = [] := HP.out
      go_wp2_with fail
      go_meet
      case rel => exact ⟨rfl, HO1.out, HB1.out⟩
    | false =>
      obtain rfl : P = [105, 109, 115, 105, 45] := HP.out
      go_wp2_with (at_builtin; refine Lib.wpList_append_own_string _ rfl (.tmp 20) _ 23 9 rfl w.heap.size 5 i0 Ybaf.underlying23 Ybaf.underlying9 hi hz0 hz1 hz2 _ 0 [] rfl HO1.out ⟨#[105, 109, 115, 105, 45]⟩ rfl (by decide) (by decide) (by have := HB1.out.size; omega) ?_; intro v2 w2 hown2 hgrow2 hnil2)
      go_meet
      case rel => exact ⟨rfl, hown2, HB1.out.grown hgrow2 HB1.out.size (fun k hk => (HO1.out.lt k hk).1)⟩
  case rest =>
    obtain ⟨rfl, hown2, hB2⟩ := hcut
    have HO2 : Hid (wc.ownsRow w.heap.size 5 1 u7 P.length (P.map (Value.int .u8))) := hown2
    have HB2 : Hid (Below w.heap.size w wc) := hB2
    clear hown2 hB2 HO1 HB1
    go_wp2_with fail
    go_loopw [7, 8] (fun v i wr => ∃ k : Nat, k ≤ n ∧ i = .int .i64 (k : Int) ∧ wr.ownsRow w.heap.size 5 1 v (P.length + k) ((P ++ (zs.take k).map cc).map (Value.int .u8)) ∧ Below w.heap.size w wr) (fun _ i _ => n - (intOf i).toNat)
    case atStart => exact ⟨0, Nat.zero_le _, rfl, by simpa using HO2.out, HB2.out⟩
    case round =>
      obtain ⟨k, hk, rfl, hown, hbw⟩ := hrel
      by_cases hlt : k < n
      · obtain ⟨hz, hwf, hcs⟩ := HC.out
        obtain ⟨b, off, e1, hb, hcell0⟩ := hcs (by omega)
        subst e1
        obtain ⟨z, hzk⟩ : ∃ z, z = zs.getD k 0 := ⟨_, rfl⟩
        have hcell : wr.cell? ⟨b, off + k, none⟩ = some (.int .u8 z) := by rw [hzk]; exact (hbw.cell (by exact hb)).trans (hcell0 k hlt)
        obtain ⟨hzl, hzu⟩ : 0 ≤ z ∧ z ≤ 255 := by rw [hzk]; exact hwf k
        have HZ : Hid (z = zs.getD k 0) := hzk
        have HO : Hid (wr.ownsRow w.heap.size 5 1 u7 (P.length + k) ((P ++ (zs.take k).map cc).map (Value.int .u8))) := hown
        have HBw : Hid (Below w.heap.size w wr) := hbw
        have hzz : Hid (k < zs.length) := by show k < zs.length; omega
        clear hzk hown hbw hcell0 hcs hz hwf
        by_cases h250 : 250 ≤ z
        · go_wp2_with (at_builtin; refine wpList_append_own _ rfl _ _ 23 rfl w.heap.size 5 i0 (.int .u8 0) 1 1 Ybaf.underlying23 hi hz0 hz1 hz2 rfl (by decide) _ _ _ rfl (HO.out.alloc _) ⟨wr.heap.size, 0, none⟩ 1 1 [.int .u8 120] rfl rfl (cell_one_new _ _ _) (by simp [Value.oneCell']) (by unfold maxLen; omega) (by omega) (by have := HBw.out.size; simp; omega) ?_; intro v' w1 hown' hgrow hnil')
          have R := built_step (c := 120) HZ.out hzz.out (by unfold cc; rw [if_pos h250]) HBw.out HO.out hown' hgrow
          clear hown' hgrow hnil' HO
          go_roundw
          case rel => exact ⟨k + 1, by omega, by go_num, R.1, R.2⟩
          case measure => simp [intOf]; omega
        · go_wp2_with (at_builtin; refine wpList_append_own _ rfl _ _ 23 rfl w.heap.size 5 i0 (.int .u8 0) 1 1 Ybaf.underlying23 hi hz0 hz1 hz2 rfl (by decide) _ _ _ rfl (HO.out.alloc _) ⟨wr.heap.size, 0, none⟩ 1 1 [.int .u8 (48 + z % 10)] rfl rfl (cell_one_new _ _ _) (by simp [Value.oneCell']) (by unfold maxLen; omega) (by omega) (by have := HBw.out.size; simp; omega) ?_; intro v' w1 hown' hgrow hnil')
          have R := built_step (c := 48 + z % 10) HZ.out hzz.out (by unfold cc; rw [if_neg (by omega)]) HBw.out HO.out hown' hgrow
          clear hown' hgrow hnil' HO
          go_roundw
          case rel => exact ⟨k + 1, by omega, by go_num, R.1, R.2⟩
          case measure => simp [intOf]; omega
      · obtain rfl : k = n := by omega
        have hcv := convert_own hown
        have hsz : (strOfNums (P ++ (zs.take k).map cc)).size ≤ 1029 := by
          rw [strOfNums_size]; simp only [List.length_append, List.length_map, List.length_take]; omega
        have HBw : Hid (Below w.heap.size w wr) := hbw
        have hFw : Hid (F.answers wr.tape) := answers_below hF hbw
        generalize strOfNums (P ++ (zs.take k).map cc) = S at *
        clear hown hbw
        go_wp2_with fail
        refine (agree F S _ _ (by exact hFw.out) hsz).mono ?_
        rintro e w' ⟨rfl, hb⟩
        go_wp2_with fail
        go_ret
        exact ⟨rfl, HBw.out.trans (hb.mono HBw.out.size)⟩

theorem built_long (a : Option Addr) (n cap : Nat) (m : Int) (np : Bool) (w : World) (hn : 1024 < n) :
    Calls Ybaf.prog 4 #[.slice a n cap, .int .u8 m, .bool np] w fun e w' => e = .returned (.bool true) ∧ Below w.heap.size w w' := by
  have h : (1024 : Int) < (n : Int) := by omega
  go_enter Ybaf.func4, Ybaf.ntmps4
  go_wp2
  go_ret
  exact ⟨rfl, Below.refl _ _⟩
end Go.Proofs.YbulkcgwaFmt
