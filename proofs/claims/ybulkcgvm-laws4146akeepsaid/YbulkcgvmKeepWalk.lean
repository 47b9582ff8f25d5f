import Derived.Test.YbulkcgvmKeep
import Derived.Deep.DeepCutAuto
/-! The walk of 'LawS4146AKeep' (function 3). -/
namespace Go.Proofs.Ybulkcgvm
open Go.ChangeShapes Go.WideShapes Go.ChangeAt Go.RowKit

/-- what the walk is told of a byte slice that came in -/
def Came (w : World) (a : Option Addr) (len cap : Nat) (zs : List Int) : Prop :=
  len ≤ cap ∧ cap ≤ maxLen ∧ (a = none → len = 0 ∧ cap = 0) ∧ len ≤ zs.length ∧
  (0 < len → ∃ b off, a = some ⟨b, off, none⟩ ∧ b < w.heap.size ∧ ∀ j, j < len → w.cell? ⟨b, off + j, none⟩ = some (.int .u8 (zs.getD j 0)))

theorem Lies.mono {w : World} {F F' : Nat} {ao : Option Addr} {n : Nat} {X : List Int} (h : Lies w F ao n X) (hF : F ≤ F') : Lies w F' ao n X :=
  ⟨h.1, fun h0 => by
    obtain ⟨g, e, hg, hx⟩ := h.2 h0
    exact ⟨g, e, by omega, hx⟩⟩

theorem frame_cells (wb : World) (mx : Int) (am : Option Addr) (n : Nat) (ov : Bool) :
    ((wb.alloc (.cells #[.pointer none, .int .i64 0, .int .i64 mx, .slice am n n] 28)).alloc (.cells #[.bool ov] 4)).cell? ⟨wb.heap.size, 2, none⟩ = some (.int .i64 mx) ∧
    ((wb.alloc (.cells #[.pointer none, .int .i64 0, .int .i64 mx, .slice am n n] 28)).alloc (.cells #[.bool ov] 4)).cell? ⟨wb.heap.size, 3, none⟩ = some (.slice am n n) ∧
    ((wb.alloc (.cells #[.pointer none, .int .i64 0, .int .i64 mx, .slice am n n] 28)).alloc (.cells #[.bool ov] 4)).frozen? ⟨wb.heap.size, 3, none⟩ = false ∧
    ((wb.alloc (.cells #[.pointer none, .int .i64 0, .int .i64 mx, .slice am n n] 28)).alloc (.cells #[.bool ov] 4)).cell? ⟨wb.heap.size + 1, 0, none⟩ = some (.bool ov) ∧
    ((wb.alloc (.cells #[.pointer none, .int .i64 0, .int .i64 mx, .slice am n n] 28)).alloc (.cells #[.bool ov] 4)).frozen? ⟨wb.heap.size + 1, 0, none⟩ = false ∧
    (∀ p : Addr, p.block < wb.heap.size → ((wb.alloc (.cells #[.pointer none, .int .i64 0, .int .i64 mx, .slice am n n] 28)).alloc (.cells #[.bool ov] 4)).cell? p = wb.cell? p) ∧
    Below wb.heap.size wb ((wb.alloc (.cells #[.pointer none, .int .i64 0, .int .i64 mx, .slice am n n] 28)).alloc (.cells #[.bool ov] 4)) := by
  have hb : Below wb.heap.size wb ((wb.alloc (.cells #[.pointer none, .int .i64 0, .int .i64 mx, .slice am n n] 28)).alloc (.cells #[.bool ov] 4)) :=
    ((Below.refl _ _).alloc (Nat.le_refl _) _).alloc (by simp) _
  refine ⟨by simp, by simp, by simp, by simp, by simp, fun p hp => hb.cell hp, hb⟩

theorem own_heap {w : World} {B g n : Nat} {xs : List Value} (h : w.ownsRow B 5 1 (.slice (some ⟨g, 0, none⟩) n n) n xs) : ∃ cur : List Value, w.heap[g]? = some (.cells cur.toArray 5 (0, 0)) ∧ cur.length = n := by
  rcases h.2 with ⟨h', _⟩ | ⟨g', cap', cur, h', _, hg, _, _, hs, _⟩
  · simp at h'
  · simp only [Value.slice.injEq, Option.some.injEq, Addr.mk.injEq, and_true, true_and] at h'
    obtain ⟨rfl, rfl⟩ := h'
    exact ⟨cur.toList, by simpa using hg, by simpa using hs⟩

/-- what the copy of a slice that came in reads -/
theorem lies_copy {w : World} {g n : Nat} {Z : List Value} {X : List Int} (hX : X.length = n)
    (h : w.heap[g]? = some (.cells (splice Z 0 (X.map (Value.int .u8))).toArray 5 (0, 0))) : Lies w w.heap.size (some ⟨g, 0, none⟩) n X := by
  refine ⟨hX, fun _ => ⟨g, rfl, (Array.getElem?_eq_some_iff.1 h).1, fun j hj => ?_⟩⟩
  rw [cell_of_row w g j _ 5 (0, 0) h]
  simp only [splice, List.take_zero, List.nil_append, List.getElem?_toArray]
  rw [List.getElem?_append_left (by simp [hX, hj]), List.getElem?_map]
  simp [List.getD, List.getElem?_eq_getElem (show j < X.length by omega)]

theorem came_src {w w' : World} {x : Addr} {n len cap : Nat} {zs : List Int} (h : Came w (some x) len cap zs) (hn : n ≤ len) (hb : Below w.heap.size w w') :
    0 < ((zs.take n).map (Value.int .u8)).length → ∃ ad, some x = some ad ∧ ∀ (j : Nat) (v : Value), ((zs.take n).map (Value.int .u8))[j]? = some v → w'.cell? (ad.add j) = some v := by
  intro h0
  obtain ⟨h1, _, _, h4, h5⟩ := h
  rw [List.length_map, List.length_take] at h0
  obtain ⟨b, off, e, hbs, hc⟩ := h5 (by omega)
  obtain rfl := Option.some.inj e
  refine ⟨_, rfl, fun j v hj => ?_⟩
  obtain ⟨hjl, rfl⟩ := List.getElem?_eq_some_iff.1 hj
  rw [List.length_map, List.length_take] at hjl
  rw [Addr.add_lit, hb.cell (by exact hbs), hc j (by omega)]
  simp [List.getD, List.getElem?_eq_getElem (show j < zs.length by omega)]

/-- the two cells of the law's first loop hold one number -/
theorem first_cells {w w6 : World} {a1 ao : Option Addr} {l1 c1 n k m : Nat} {z1 Y : List Int} (hC : Came w a1 l1 c1 z1) (hB : Below w.heap.size w w6)
    (hR : 0 < n + k → ∃ g, ao = some ⟨g, 0, none⟩ ∧ ∀ j, j < n + k → w6.cell? ⟨g, j, none⟩ = some (.int .u8 ((z1.take n ++ Y).getD j 0))) (hn : n ≤ l1) (hm : m < n) :
    ∃ g b off z, ao = some ⟨g, 0, none⟩ ∧ a1 = some ⟨b, off, none⟩ ∧ w6.cell? ⟨g, m, none⟩ = some (.int .u8 z) ∧ w6.cell? ⟨b, off + m, none⟩ = some (.int .u8 z) := by
  obtain ⟨_, _, _, h4, h5⟩ := hC
  obtain ⟨b, off, e, hb, hc⟩ := h5 (by omega)
  obtain ⟨g, e2, hg⟩ := hR (by omega)
  refine ⟨g, b, off, z1.getD m 0, e2, e, ?_, ?_⟩
  · rw [hg m (by omega)]
    have : (z1.take n ++ Y).getD m 0 = z1.getD m 0 := by
      simp only [List.getD]
      rw [List.getElem?_append_left (by rw [List.length_take]; omega), List.getElem?_take, if_pos hm]
    rw [this]
  · rw [hB.cell (by exact hb)]
    exact hc m (by omega)

/-- the two cells of the law's second loop hold one number -/
theorem second_cells {w w6 : World} {a2 ao : Option Addr} {l2 c2 n k m : Nat} {X z2 : List Int} (hX : X.length = n) (hC : Came w a2 l2 c2 z2) (hB : Below w.heap.size w w6)
    (hR : 0 < n + k → ∃ g, ao = some ⟨g, 0, none⟩ ∧ ∀ j, j < n + k → w6.cell? ⟨g, j, none⟩ = some (.int .u8 ((X ++ (z2.take l2).take k).getD j 0))) (hk : k ≤ l2) (hm : m < k) :
    ∃ g b off z, ao = some ⟨g, 0, none⟩ ∧ a2 = some ⟨b, off, none⟩ ∧ w6.cell? ⟨g, n + m, none⟩ = some (.int .u8 z) ∧ w6.cell? ⟨b, off + m, none⟩ = some (.int .u8 z) := by
  obtain ⟨_, _, _, h4, h5⟩ := hC
  obtain ⟨b, off, e, hb, hc⟩ := h5 (by omega)
  obtain ⟨g, e2, hg⟩ := hR (by omega)
  refine ⟨g, b, off, z2.getD m 0, e2, e, ?_, ?_⟩
  · rw [hg (n + m) (by omega)]
    have : (X ++ (z2.take l2).take k).getD (n + m) 0 = z2.getD m 0 := by
      simp only [List.getD]
      rw [List.getElem?_append_right (by omega), hX, Nat.add_sub_cancel_left, List.getElem?_take, if_pos hm, List.getElem?_take, if_pos (by omega)]
    rw [this]
  · rw [hB.cell (by exact hb)]
    exact hc m (by omega)

/-- the two cells of the law's third loop hold one number -/
theorem third_cells {w w6 : World} {a2 ab : Option Addr} {F l2 c2 m : Nat} {z2 : List Int} (hC : Came w a2 l2 c2 z2) (hB : Below w.heap.size w w6)
    (hA : Lies w6 F ab l2 (z2.take l2)) (hm : m < l2) :
    ∃ g b off z, ab = some ⟨g, 0, none⟩ ∧ a2 = some ⟨b, off, none⟩ ∧ w6.cell? ⟨g, m, none⟩ = some (.int .u8 z) ∧ w6.cell? ⟨b, off + m, none⟩ = some (.int .u8 z) := by
  obtain ⟨_, _, _, h4, h5⟩ := hC
  obtain ⟨b, off, e, hb, hc⟩ := h5 (by omega)
  obtain ⟨g, e2, _, hg⟩ := hA.2 (by omega)
  refine ⟨g, b, off, z2.getD m 0, e2, e, ?_, ?_⟩
  · rw [hg m hm]
    have : (z2.take l2).getD m 0 = z2.getD m 0 := by
      simp only [List.getD]
      rw [List.getElem?_take, if_pos hm]
    rw [this]
  · rw [hB.cell (by exact hb)]
    exact hc m hm

theorem ret_bool' {a b : Bool} (h : a = b) : Ending.returned (.bool a) = .returned (.bool b) := by rw [h]

set_option maxRecDepth 100000 in
set_option maxHeartbeats 1000000 in
theorem keep_law (lim : Int) (a1 : Option Addr) (l1 c1 : Nat) (z1 : List Int) (a2 : Option Addr) (l2 c2 : Nat) (z2 : List Int) (ov : Bool) (w : World) (n : Nat)
    (hm0 : 0 ≤ lim) (hm1 : lim ≤ 65535) (hC1 : Came w a1 l1 c1 z1) (hC2 : Came w a2 l2 c2 z2) (hl1 : l1 ≤ 4096) (hl2 : l2 ≤ 4096) (hn : (n : Int) = min (l1 : Int) (lim % 4096 + 1)) :
    Calls Yba.prog 3 #[.int .u16 lim, .slice a1 l1 c1, .slice a2 l2 c2, .bool ov] w fun e w' => e = .returned (.bool true) ∧ Below w.heap.size w w' := by
  obtain ⟨i0, hi, hz0, hz1, hz2⟩ := info_parts Yba.info5b
  have t1 : decide ((4096 : Int) < (l1 : Int)) = false := by simp; omega
  have t2 : decide ((4096 : Int) < (l2 : Int)) = false := by simp; omega
  have HN : Hid ((n : Int) = min (l1 : Int) (lim % 4096 + 1)) := hn
  clear hn
  have hne1 := fun W => run_neq_slice_nil_any (P := Yba.prog) W 23 5 a1 l1 c1 0 0 Yba.underlying23
  go_enter Yba.func3, Yba.ntmps3
  go_upto_if 37 with fail
  go_cut [10] (fun v wc => v = .int .i64 (n : Int) ∧ w = wc)
  case first =>
    by_cases hlt : lim % 4096 + 1 < (l1 : Int)
    · go_wp2_with fail
      go_meet
      case rel => exact ⟨congrArg (Value.int .i64) (by have := HN.out; omega), rfl⟩
    · go_wp2_with fail
      go_meet
      case rel => exact ⟨congrArg (Value.int .i64) (by have := HN.out; omega), rfl⟩
  case rest =>
    obtain ⟨rfl, rfl⟩ := hcut
    have hn1 : n ≤ l1 := by have := HN.out; omega
    have hn2 : (n : Int) ≤ lim % 4096 + 1 := by have := HN.out; omega
    go_upto_if 41 with fail
    go_cut [11] (fun v w2 => ∃ am, v = .slice am n n ∧ Lies w2 w2.heap.size am n (z1.take n) ∧ Below w.heap.size w w2)
    case first =>
      cases a1 with
      | none =>
        obtain rfl : n = 0 := by have := hC1.2.2.1 rfl; omega
        go_wp2_with fail
        go_meet
        case rel => exact ⟨none, rfl, ⟨by simp, fun h => absurd h (Nat.lt_irrefl _)⟩, Below.refl _ _⟩
      | some x =>
        have hnc : (n : Int) ≤ (c1 : Int) := by have := hC1.1; omega
        have HC : Hid (Came w (some x) l1 c1 z1) := hC1
        have hXl : Hid ((z1.take n).length = n) := by have := hC1.2.2.2.1; show _ = _; rw [List.length_take]; omega
        clear hC1 hC2
        go_wp2_with (first | (at_make; refine wpList_make_full _ rfl _ _ 23 rfl w.heap.size 5 i0 (.int .u8 0) 1 Yba.underlying23 hi hz0 hz1 .i64 .i64 _ _ n rfl rfl rfl rfl (by rw [hz2]; omega) (by unfold maxLen; omega) (Nat.le_refl _) ?_; intro w1 hown hgrow; obtain ⟨Z, hg, hZ⟩ := own_heap hown; have HG : Hid (w1.heap[w.heap.size]? = some (.cells Z.toArray 5 (0, 0))) := hg; have HZ : Hid (Z.length = n) := hZ; have HB : Hid (Below w.heap.size w w1) := (Below.refl _ _).grown hgrow (Nat.le_refl _) (by simp); clear hown hgrow hg hZ) | (refine wpList_copy_splice rfl (.tmp 44) (.tmp 47) 23 23 rfl 5 Yba.underlying23 (by rw [hi]; simp [hz1]) _ _ _ _ _ _ rfl rfl w.heap.size 0 Z 5 HG.out ((z1.take n).map (Value.int .u8)) (by rw [List.length_map, hXl.out]; simp) (fun h => ⟨rfl, came_src HC.out hn1 HB.out h⟩) (by rw [List.length_map, hXl.out, HZ.out]; omega) (ints_oneCell _ _) w.heap.size w HB.out (Nat.le_refl _) ?_; intro w2 HG2 HB2))
        have R1 : Hid (Lies w2 w2.heap.size (some ⟨w.heap.size, 0, none⟩) n (z1.take n)) := lies_copy hXl.out HG2.out
        go_meet
        case rel => exact ⟨_, rfl, R1.out, HB2⟩
    case rest =>
      obtain ⟨am, rfl, hM, hB⟩ := hcut
      obtain ⟨wm, hwm⟩ : ∃ wm, wm = wc := ⟨_, rfl⟩
      rw [← hwm] at hM hB ⊢
      clear hwm wc
      have HM : Hid (Lies wm wm.heap.size am n (z1.take n)) := hM
      have HBm : Hid (Below w.heap.size w wm) := hB
      clear hM hB hne1
      have hne2 := fun W => run_neq_slice_nil_any (P := Yba.prog) W 23 5 a2 l2 c2 0 0 Yba.underlying23
      go_upto_if 50 with fail
      go_cut [12] (fun v w2 => ∃ ab, v = .slice ab l2 l2 ∧ Lies w2 w2.heap.size ab l2 (z2.take l2) ∧ Lies w2 w2.heap.size am n (z1.take n) ∧ Below w.heap.size w w2)
      case first =>
        cases a2 with
        | none =>
          obtain rfl : l2 = 0 := (hC2.2.2.1 rfl).1
          go_wp2_with fail
          go_meet
          case rel => exact ⟨none, rfl, ⟨by simp, fun h => absurd h (Nat.lt_irrefl _)⟩, HM.out, HBm.out⟩
        | some x =>
          have HC : Hid (Came w (some x) l2 c2 z2) := hC2
          have hXl : Hid ((z2.take l2).length = l2) := by have := hC2.2.2.2.1; show _ = _; rw [List.length_take]; omega
          have hsz : w.heap.size ≤ wm.heap.size := HBm.out.size
          clear hC1 hC2
          go_wp2_with (first | (at_make; refine wpList_make_full _ rfl _ _ 23 rfl wm.heap.size 5 i0 (.int .u8 0) 1 Yba.underlying23 hi hz0 hz1 .i64 .i64 _ _ l2 rfl rfl rfl rfl (by rw [hz2]; omega) (by unfold maxLen; omega) (Nat.le_refl _) ?_; intro w1 hown hgrow; obtain ⟨Z, hg, hZ⟩ := own_heap hown; have HG : Hid (w1.heap[wm.heap.size]? = some (.cells Z.toArray 5 (0, 0))) := hg; have HZ : Hid (Z.length = l2) := hZ; have HB : Hid (Below wm.heap.size wm w1) := (Below.refl _ _).grown hgrow (Nat.le_refl _) (by simp); clear hown hgrow hg hZ) | (refine wpList_copy_splice rfl (.tmp 54) (.tmp 55) 23 23 rfl 5 Yba.underlying23 (by rw [hi]; simp [hz1]) _ _ _ _ _ _ rfl rfl wm.heap.size 0 Z 5 HG.out ((z2.take l2).map (Value.int .u8)) (by rw [List.length_map, hXl.out]; simp) (fun h => ⟨rfl, came_src HC.out (Nat.le_refl _) (HBm.out.trans (HB.out.mono hsz)) h⟩) (by rw [List.length_map, hXl.out, HZ.out]; omega) (ints_oneCell _ _) wm.heap.size wm HB.out (Nat.le_refl _) ?_; intro w2 HG2 HB2))
          have R1 : Hid (Lies w2 w2.heap.size (some ⟨wm.heap.size, 0, none⟩) l2 (z2.take l2)) := lies_copy hXl.out HG2.out
          have R2 : Hid (Lies w2 w2.heap.size am n (z1.take n)) := (HM.out.on fun p hp => HB2.cell hp).mono HB2.size
          have R3 : Hid (Below w.heap.size w w2) := HBm.out.trans (HB2.mono hsz)
          go_meet
          case rel => exact ⟨_, rfl, R1.out, R2.out, R3.out⟩
      case rest =>
        obtain ⟨ab, rfl, hM2, hM1, hB⟩ := hcut
        obtain ⟨wb, hwb⟩ : ∃ wb, wb = wc := ⟨_, rfl⟩
        rw [← hwb] at hM1 hM2 hB ⊢
        clear hwb wc HM HBm
        have HM1 : Hid (Lies wb wb.heap.size am n (z1.take n)) := hM1
        have HM2 : Hid (Lies wb wb.heap.size ab l2 (z2.take l2)) := hM2
        have HBb : Hid (Below w.heap.size w wb) := hB
        clear hM1 hM2 hB hne2
        go_wp2_with fail
        obtain ⟨k, hk⟩ : ∃ k : Nat, (k : Int) = min (l2 : Int) (lim % 4096 + 1 - n) := ⟨(min (l2 : Int) (lim % 4096 + 1 - n)).toNat, by omega⟩
        have HK : Hid ((k : Int) = min (l2 : Int) (lim % 4096 + 1 - n)) := hk
        have hk2 : k ≤ l2 := by omega
        have hk3 : (n : Int) + (k : Int) ≤ lim % 4096 + 1 := by omega
        clear hk
        have hfc := frame_cells wb (lim % 4096) am n ov
        have HFC := hfc
        clear hfc
        refine (keep_any wb.heap.size (wb.heap.size + 1) n l2 l2 k am ab (z1.take n) (z2.take l2) (lim % 4096) ov _ (by omega) HFC.1 HFC.2.1 HFC.2.2.1 HFC.2.2.2.1 HFC.2.2.2.2.1 (HM1.out.on HFC.2.2.2.2.2.1) (HM2.out.on HFC.2.2.2.2.2.1) (Nat.le_refl _) (by omega) (by omega) hn2 HK.out).mono ?_
        rintro e w6 ⟨rfl, ao, c, r1, r2, r3, r4⟩
        have HB6 : Hid (Below wb.heap.size wb w6) := HFC.2.2.2.2.2.2.trans r4
        have HB7 : Hid (Below w.heap.size w w6) := HBb.out.trans (HB6.out.mono HBb.out.size)
        have HA2 : Hid (Lies w6 wb.heap.size ab l2 (z2.take l2)) := HM2.out.on fun p hp => HB6.out.cell hp
        have HR2 : Hid (0 < n + k → ∃ g, ao = some ⟨g, 0, none⟩ ∧ ∀ j, j < n + k → w6.cell? ⟨g, j, none⟩ = some (.int .u8 ((z1.take n ++ (z2.take l2).take k).getD j 0))) := r2
        obtain ⟨vv, hvv⟩ : ∃ vv, vv = (ov || decide (lim % 4096 + 1 - (n : Int) < (l2 : Int))) := ⟨_, rfl⟩
        rw [← hvv] at r3
        have HV : Hid (vv = (ov || decide (lim % 4096 + 1 - (n : Int) < (l2 : Int)))) := hvv
        obtain ⟨N, hN⟩ : ∃ N, N = n + k := ⟨_, rfl⟩
        rw [← hN] at r1
        have hN0 : ((N : Int) != (n : Int) + (k : Int)) = false := by simp [hN]
        have hN1 : decide (lim % 4096 + 1 < (N : Int)) = false := by simp; omega
        have hN2 : (n : Int) + (k : Int) ≤ (N : Int) := by omega
        clear hvv r2 r4 HFC hN
        go_upto_if 74 with fail
        go_cut [16, 17] (fun a b wx => a = .int .i64 (k : Int) ∧ b = .bool vv ∧ w6 = wx)
        case first =>
          by_cases hlt : lim % 4096 + 1 - (n : Int) < (l2 : Int)
          · go_wp2_with fail
            go_meet
            case rel => exact ⟨congrArg (Value.int .i64) (by have := HK.out; omega), congrArg Value.bool (by rw [HV.out, decide_eq_true hlt]; simp), rfl⟩
          · go_wp2_with fail
            go_meet
            case rel => exact ⟨congrArg (Value.int .i64) (by have := HK.out; omega), congrArg Value.bool (by rw [HV.out, decide_eq_false (Int.not_lt.2 hlt)]; simp), rfl⟩
        case rest =>
          obtain ⟨rfl, rfl, rfl⟩ := hcut
          go_wp2_with fail
          have HC1 : Hid (Came w a1 l1 c1 z1) := hC1
          have HC2 : Hid (Came w a2 l2 c2 z2) := hC2
          have HL : Hid ((z1.take n).length = n) := HM1.out.1
          clear hC1 hC2 hN0 hN1 t1 t2 HK HV HM1 HM2 HN hi hz0 hz1 hz2
          go_loopw [18] (fun i wr => ∃ m q : Nat, m ≤ n ∧ i = .int .i64 (m : Int) ∧ wr = w6.drewN q) (fun i _ => n - (intOf i).toNat)
          case atStart => exact ⟨0, 0, Nat.zero_le _, rfl, rfl⟩
          case round =>
            obtain ⟨m, q, hm, rfl, rfl⟩ := hrel
            by_cases hlt : m < n
            · obtain ⟨g, b, off, z, e1, e2, x1, x2⟩ := first_cells HC1.out HB7.out HR2.out hn1 hlt
              subst e1
              subst e2
              have hml : (m : Int) < (l1 : Int) := by omega
              have hmN : (m : Int) < (N : Int) := by omega
              go_wp2
              go_quiet (fail)
              go_wp2
              go_roundw
              case rel => exact ⟨m + 1, _, by omega, by go_num, rfl⟩
              case measure => simp [intOf]; omega
            · go_wp2_with fail
              go_loopw [19] (fun i wr => ∃ m q : Nat, m ≤ k ∧ i = .int .i64 (m : Int) ∧ wr = w6.drewN q) (fun i _ => k - (intOf i).toNat)
              case atStart => exact ⟨0, _, Nat.zero_le _, rfl, rfl⟩
              case round =>
                clear hlt hm
                obtain ⟨m, q, hm, rfl, rfl⟩ := hrel
                by_cases hlt : m < k
                · obtain ⟨g, b, off, z, e1, e2, x1, x2⟩ := second_cells (HL.out) HC2.out HB7.out HR2.out hk2 hlt
                  subst e1
                  subst e2
                  have hml : (m : Int) < (l2 : Int) := by omega
                  have hmN : (n : Int) + (m : Int) < (N : Int) := by omega
                  have x3 : w6.cell? ⟨g, ((n : Int) + (m : Int)).toNat, none⟩ = some (.int .u8 z) := by rw [show ((n : Int) + (m : Int)).toNat = n + m from by omega]; exact x1
                  go_wp2
                  go_quiet (fail)
                  go_wp2
                  go_roundw
                  case rel => exact ⟨m + 1, _, by omega, by go_num, rfl⟩
                  case measure => simp [intOf]; omega
                · go_wp2_with fail
                  go_loopw [20] (fun i wr => ∃ m q : Nat, m ≤ l2 ∧ i = .int .i64 (m : Int) ∧ wr = w6.drewN q) (fun i _ => l2 - (intOf i).toNat)
                  case atStart => exact ⟨0, _, Nat.zero_le _, rfl, rfl⟩
                  case round =>
                    clear hlt hm
                    obtain ⟨m, q, hm, rfl, rfl⟩ := hrel
                    by_cases hlt : m < l2
                    · obtain ⟨g, b, off, z, e1, e2, x1, x2⟩ := third_cells HC2.out HB7.out HA2.out hlt
                      subst e1
                      subst e2
                      have hml : (m : Int) < (l2 : Int) := by omega
                      go_wp2
                      go_quiet (fail)
                      go_wp2
                      go_roundw
                      case rel => exact ⟨m + 1, _, by omega, by go_num, rfl⟩
                      case measure => simp [intOf]; omega
                    · go_wp2_with fail
                      go_ret
                      exact ⟨rfl, HB7.out.trans (below_drewN _ _ _)⟩
end Go.Proofs.Ybulkcgvm
