import Derived.Test.YbulkcgzuDoorKit
import Derived.Deep.RegionHeld
/-! The contract of the law's own reader '(*zzs4154brd).Read' (function 24). -/
namespace Go.Proofs.YbulkcgzuDoor
open Go.RowKit

/-- the reader's own block -/
def rdc (bv : Value) (k : Nat) (sv : Value) (i : Int) (E : Value) (c : Int) : List Value := [bv, .int .i64 (k : Int), sv, .int .i64 i, E, .int .i64 c]

/-- the source: N bytes in block Bs -/
def Src (w : World) (Bs N : Nat) (src : List Int) : Prop := src.length = N ∧ ∀ j, j < N → w.cell? ⟨Bs, j, none⟩ = some (.int .u8 (src.getD j 0))
/-- the sizes -/
def Sizes (w : World) (sa : Option Addr) (sl : Nat) (S : List Nat) : Prop :=
  sl ≤ 1024 ∧ (0 < sl → ∃ b off, sa = some ⟨b, off, none⟩ ∧ b ∉ S ∧ ∀ j, j < sl → ∃ z : Int, 0 ≤ z ∧ z ≤ 255 ∧ w.cell? ⟨b, off + j, none⟩ = some (.int .u8 z))

set_option maxRecDepth 100000 in
set_option maxHeartbeats 400000 in
theorem read_end (R N Bs cs : Nat) (sv E : Value) (i c : Int) (pv : Option Addr) (lp cp : Nat) (w : World) (hR : Blk w R (rdc (.slice (some ⟨Bs, 0, none⟩) N cs) N sv i E c) 28) (hc0 : 0 ≤ c) (hc1 : c ≤ 100000) :
    Calls Ybad.prog 24 #[.pointer (some ⟨R, 0, none⟩), .slice pv lp cp] w fun e w' => e = .returned (.tuple #[.int .i64 0, E]) ∧
      Blk w' R (rdc (.slice (some ⟨Bs, 0, none⟩) N cs) N sv i E (c + 1)) 28 ∧ Kept [R] w w' := by
  have c0 : w.cell? ⟨R, 0, none⟩ = some (.slice (some ⟨Bs, 0, none⟩) N cs) := hR.cell 0
  have c1 : w.cell? ⟨R, 1, none⟩ = some (.int .i64 (N : Int)) := hR.cell 1
  have c4 : w.cell? ⟨R, 4, none⟩ = some E := hR.cell 4
  have c5 : w.cell? ⟨R, 5, none⟩ = some (.int .i64 c) := hR.cell 5
  have f5 : w.frozen? ⟨R, 5, none⟩ = false := hR.free 5
  have R1 : Hid (Blk (w.setCell ⟨R, 5, none⟩ (.int .i64 (c + 1))) R (rdc (.slice (some ⟨Bs, 0, none⟩) N cs) N sv i E (c + 1)) 28) := hR.set 5 _
  have R2 : Hid (Kept [R] w (w.setCell ⟨R, 5, none⟩ (.int .i64 (c + 1)))) := (Kept.refl _ _).setCell (by simp) _
  clear hR
  go_enter Ybad.func24, Ybad.ntmps24
  go_wp2
  go_quiet (fail)
  go_wp2
  go_quiet (fail)
  go_wp2
  go_ret2
  exact ⟨rfl, R1.out, (R2.out.drewN _).drewN _⟩

theorem src_len {N k j : Nat} {src : List Int} (hN : src.length = N) (h : k + j ≤ N) : (((src.drop k).take j).map (Value.int .u8)).length = j := by
  rw [List.length_map, List.length_take, List.length_drop]; omega
theorem src_cells {w w' : World} {S : List Nat} {Bs N k j : Nat} {src : List Int} (hS : Src w Bs N src) (hk : Kept S w w') (hB : Bs ∉ S) (h : k + j ≤ N) :
    ∀ t v, (((src.drop k).take j).map (Value.int .u8))[t]? = some v → w'.cell? ((⟨Bs, k, none⟩ : Addr).add t) = some v := by
  intro t v hv
  obtain ⟨htl, rfl⟩ := List.getElem?_eq_some_iff.1 hv
  rw [src_len hS.1 h] at htl
  rw [Addr.add_lit, hk.cell (by exact hB), hS.2 (k + t) (by omega)]
  have : k + t < src.length := by rw [hS.1]; omega
  simp [List.getD, List.getElem?_eq_getElem this]

theorem copy_done {w w1 w2 : World} {n R g : Nat} {rd cur : List Value} (hR : Blk w1 R rd 28) (hK : Kept [R] w w1) (hgR : g ≠ R) (hK2 : Kept [g] (w1.drewN n) w2) (hG : Blk w2 g cur 5) :
    Blk w2 R rd 28 ∧ Blk w2 g cur 5 ∧ Kept [R, g] w w2 := by
  have h1 : Blk (w1.drewN n) R rd 28 := hR
  exact ⟨h1.kept hK2 (by simpa using Ne.symm hgR), hG, ((hK.drewN n).mono (by simp)).trans (hK2.mono (by simp))⟩

set_option maxRecDepth 100000 in
set_option maxHeartbeats 800000 in
theorem read_some (R N Bs cs k sl sc g o lp cp : Nat) (sa : Option Addr) (E : Value) (i c : Int) (src : List Int) (cur : List Value) (w : World)
    (hR : Blk w R (rdc (.slice (some ⟨Bs, 0, none⟩) N cs) k (.slice sa sl sc) i E c) 28) (hg : Blk w g cur 5) (hgR : g ≠ R) (hS : Src w Bs N src) (hB1 : Bs ≠ R) (hZ : Sizes w sa sl [R, g])
    (hN : N ≤ 2000) (hNc : N ≤ cs) (hk : k < N) (hlp : 1 ≤ lp) (hlp2 : lp ≤ 2000) (hcur : o + lp ≤ cur.length) (hc1 : c ≤ 100000) (hi0 : 0 ≤ i) (hic : i ≤ c) :
    Calls Ybad.prog 24 #[.pointer (some ⟨R, 0, none⟩), .slice (some ⟨g, o, none⟩) lp cp] w fun e w' => ∃ (m : Nat) (i' : Int), 1 ≤ m ∧ m ≤ lp ∧ k + m ≤ N ∧ 0 ≤ i' ∧ i' ≤ c + 1 ∧ e = .returned (.tuple #[.int .i64 (m : Int), .nilIface]) ∧
      Blk w' R (rdc (.slice (some ⟨Bs, 0, none⟩) N cs) (k + m) (.slice sa sl sc) i' E (c + 1)) 28 ∧ Blk w' g (splice cur o (((src.drop k).take m).map (Value.int .u8))) 5 ∧ Kept [R, g] w w' := by
  have c0 : w.cell? ⟨R, 0, none⟩ = some (.slice (some ⟨Bs, 0, none⟩) N cs) := hR.cell 0
  have c1 : w.cell? ⟨R, 1, none⟩ = some (.int .i64 (k : Int)) := hR.cell 1
  have c2 : w.cell? ⟨R, 2, none⟩ = some (.slice sa sl sc) := hR.cell 2
  have c3 : w.cell? ⟨R, 3, none⟩ = some (.int .i64 i) := hR.cell 3
  have c5 : w.cell? ⟨R, 5, none⟩ = some (.int .i64 c) := hR.cell 5
  have f5 : w.frozen? ⟨R, 5, none⟩ = false := hR.free 5
  have f3 : w.frozen? ⟨R, 3, none⟩ = false := hR.free 3
  have hkN : ¬ (N : Int) ≤ (k : Int) := by omega
  have hlp0 : ((lp : Int) == 0) = false := beq_eq_false_iff_ne.2 (by omega)
  have HR : Hid (Blk w R (rdc (.slice (some ⟨Bs, 0, none⟩) N cs) k (.slice sa sl sc) i E c) 28) := hR
  have HZ : Hid (Sizes w sa sl [R, g]) := hZ
  clear hR hZ
  go_enter Ybad.func24, Ybad.ntmps24
  go_wp2
  go_quiet (fail)
  go_upto_if 37 with fail
  go_cut [6] (fun v wx => ∃ (m : Nat) (i' : Int), 1 ≤ m ∧ m ≤ 4 ∧ v = .int .i64 (m : Int) ∧ 0 ≤ i' ∧ i' ≤ c + 1 ∧ Blk wx R (rdc (.slice (some ⟨Bs, 0, none⟩) N cs) k (.slice sa sl sc) i' E (c + 1)) 28 ∧ Kept [R] w wx)
  case first =>
    by_cases hsl : 0 < sl
    · obtain ⟨hs1, hs2⟩ := HZ.out
      obtain ⟨b, off, e1, hbS, hzz⟩ := hs2 hsl
      subst e1
      have hib : 0 ≤ i % (sl : Int) := Int.emod_nonneg _ (by omega)
      have hib2 : i % (sl : Int) < (sl : Int) := Int.emod_lt_of_pos _ (by omega)
      obtain ⟨z, hz0, hz1, hzc⟩ := hzz (i % (sl : Int)).toNat (by omega)
      have hsl' : (0 : Int) < (sl : Int) := by omega
      have hbR : b ≠ R := by intro e; apply hbS; simp [e]
      have hzc2 : (w.setCell ⟨R, 5, none⟩ (.int .i64 (c + 1))).cell? ⟨b, off + (i % (sl : Int)).toNat, none⟩ = some (.int .u8 z) := by rw [World.cell?_setCell_far _ _ _ _ (by simpa using Ne.symm hbR)]; exact hzc
      clear hzz hs2 hbS HZ
      go_wp2
      go_quiet (fail)
      go_wp2
      go_meet
      case rel =>
        refine ⟨(z % 4 + 1).toNat, i + 1, by omega, by omega, ?_, by omega, by omega, ?_, ?_⟩
        · exact congrArg (Value.int .i64) (by omega)
        · exact (HR.out.set 5 _).set 3 _
        · exact (((Kept.refl [R] w).setCell (by simp) _).setCell (by simp) _).drewN _
    · have hsl2 : decide ((0 : Int) < (sl : Int)) = false := by simp; omega
      go_wp2
      go_meet
      case rel => exact ⟨1, i, by omega, by omega, rfl, hi0, by omega, HR.out.set 5 _, ((Kept.refl [R] w).setCell (by simp) _).drewN _⟩
  case rest =>
    obtain ⟨m, i', hm1, hm4, rfl, hi1, hi2, hRx, hKx⟩ := hcut
    obtain ⟨w1, hw1⟩ : ∃ w1, w1 = wc := ⟨_, rfl⟩
    rw [← hw1] at hRx hKx ⊢
    clear hw1 wc c0 c1 c2 c3 c5 f5 f3 HR HZ
    have c0 : w1.cell? ⟨R, 0, none⟩ = some (.slice (some ⟨Bs, 0, none⟩) N cs) := hRx.cell 0
    have c1 : w1.cell? ⟨R, 1, none⟩ = some (.int .i64 (k : Int)) := hRx.cell 1
    have HR1 : Hid (Blk w1 R (rdc (.slice (some ⟨Bs, 0, none⟩) N cs) k (.slice sa sl sc) i' E (c + 1)) 28) := hRx
    have HK1 : Hid (Kept [R] w w1) := hKx
    clear hRx hKx
    go_wp2
    go_quiet (fail)
    go_upto_if 76 with fail
    go_cut [6] (fun v wx => ∃ m' : Nat, 1 ≤ m' ∧ k + m' ≤ N ∧ v = .int .i64 (m' : Int) ∧ w1.drewN nq = wx)
    case first =>
      by_cases hmr : (N : Int) - (k : Int) < (m : Int)
      · go_wp2
        go_meet
        case rel => exact ⟨N - k, by omega, by omega, congrArg (Value.int .i64) (by omega), rfl⟩
      · go_wp2
        go_meet
        case rel => exact ⟨m, by omega, by omega, rfl, rfl⟩
    case rest =>
      clear hm1 hm4
      obtain ⟨m', hm1, hm2, rfl, rfl⟩ := hcut
      go_upto_if 81 with fail
      go_cut [6] (fun v wx => ∃ m'' : Nat, 1 ≤ m'' ∧ m'' ≤ lp ∧ k + m'' ≤ N ∧ v = .int .i64 (m'' : Int) ∧ w1.drewN nq = wx)
      case first =>
        by_cases hmr : (lp : Int) < (m' : Int)
        · go_wp2
          go_meet
          case rel => exact ⟨lp, by omega, by omega, by omega, rfl, rfl⟩
        · go_wp2
          go_meet
          case rel => exact ⟨m', by omega, by omega, by omega, rfl, rfl⟩
      case rest =>
        clear hm1 hm2
        obtain ⟨j, hj1, hj2, hj3, rfl, rfl⟩ := hcut
        have hj4 : (k : Int) + (j : Int) ≤ (cs : Int) := by omega
        have HG : Hid (Blk (w1.drewN nq) g cur 5) := hg.kept (HK1.out.drewN nq) (by simpa using hgR)
        obtain ⟨X, hX⟩ : ∃ X, X = ((src.drop k).take j).map (Value.int .u8) := ⟨_, rfl⟩
        have HX : Hid (X = ((src.drop k).take j).map (Value.int .u8)) := hX
        have hXl : Hid (X.length = j) := by rw [hX]; exact src_len hS.1 hj3
        have hXs : Hid (∀ t v, X[t]? = some v → w1.cell? ((⟨Bs, k, none⟩ : Addr).add t) = some v) := by rw [hX]; exact src_cells hS (HK1.out) (by simpa using hB1) hj3
        have hX1 : Hid (∀ v ∈ X, v.oneCell' = true) := by rw [hX]; exact ints_oneCell _ _
        clear hX
        have hck : ¬ cs = k := by omega
        have hck2 : (k : Int) < (cs : Int) := by omega
        have hwr : IntKind.i64.wrap ((k : Int) + (j : Int)) = (k : Int) + (j : Int) := by rw [IntKind.wrap_i64]; omega
        have htn : ((k : Int) + (j : Int)).toNat = k + j := by omega
        have hnn : 0 ≤ (k : Int) + (j : Int) := by omega
        go_upto_region 15 with fail
        go_cut [] (fun wx => Blk wx R (rdc (.slice (some ⟨Bs, 0, none⟩) N cs) k (.slice sa sl sc) i' E (c + 1)) 28 ∧ Blk wx g (splice cur o X) 5 ∧ Kept [R, g] w wx)
        case first =>
          go_region_law (refine step_copy_exact rfl (.tmp 84) (.tmp 99) 22 22 rfl 5 Ybad.underlying22 Ybad.size5 g o lp cp ⟨Bs, k, none⟩ j _ rfl rfl cur 5 HG.out X (by rw [hXl.out]; exact (Nat.min_eq_left hj2).symm) hXs.out (by rw [hXl.out]; omega) hX1.out ?_; intro w2 HG2 HK2)
          all_goals (go_wp2_with fail; go_meet; exact copy_done HR1.out HK1.out hgR HK2.out HG2.out)
        case rest =>
          obtain ⟨hR2, hG2, hK2⟩ := hcut
          have d1 : wc.cell? ⟨R, 1, none⟩ = some (.int .i64 (k : Int)) := hR2.cell 1
          have g1 : wc.frozen? ⟨R, 1, none⟩ = false := hR2.free 1
          have HR2 : Hid (Blk wc R (rdc (.slice (some ⟨Bs, 0, none⟩) N cs) k (.slice sa sl sc) i' E (c + 1)) 28) := hR2
          have HG2 : Hid (Blk wc g (splice cur o X) 5) := hG2
          have HK2 : Hid (Kept [R, g] w wc) := hK2
          clear hR2 hG2 hK2
          go_wp2
          go_ret2
          refine ⟨j, i', hj1, hj2, hj3, hi1, hi2, rfl, ?_, ?_, ?_⟩
          · have := HR2.out.set 1 (.int .i64 ((k : Int) + (j : Int)))
            have e : (rdc (.slice (some ⟨Bs, 0, none⟩) N cs) k (.slice sa sl sc) i' E (c + 1)).set 1 (.int .i64 ((k : Int) + (j : Int))) = rdc (.slice (some ⟨Bs, 0, none⟩) N cs) (k + j) (.slice sa sl sc) i' E (c + 1) := by simp [rdc]
            rw [e] at this
            exact this
          · rw [← HX.out]
            exact HG2.out.other (by simpa using hgR) _
          · exact HK2.out.setCell (by simp) _
end Go.Proofs.YbulkcgzuDoor
