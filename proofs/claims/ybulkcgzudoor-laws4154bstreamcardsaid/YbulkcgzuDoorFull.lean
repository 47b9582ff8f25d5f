import Derived.Test.YbulkcgzuDoorRead
import Derived.LaidEql
/-! The contracts of 'io.ReadAtLeast' (function 8) and 'io.ReadFull' (function 7) over the law's own reader. -/
namespace Go.Proofs.YbulkcgzuDoor
open Go.RowKit

theorem Ybad.comp38 : (Ybad.prog.info? 38).map (·.comparable) = some true := by kernel_rfl
theorem Ybad.size40 : (Ybad.prog.info? 40).map (·.size) = some 1 := by kernel_rfl

/-- an error that errors.New made -/
abbrev err (a : Addr) : Value := .iface 38 (.pointer (some a))

theorem eql_same (a : Addr) (w : World) : (binOp .eql 24 (err a) (err a)).run Ybad.prog w = .ok (.bool true) w := by
  obtain ⟨i, hi, hc⟩ := Option.map_eq_some_iff.1 Ybad.comp38
  obtain ⟨j, hj, _⟩ := Option.map_eq_some_iff.1 Ybad.size40
  exact run_eql_iface_ptr_same w a Ybad.underlying24 Ybad.underlying38 hi hc hj
theorem eql_other {a b : Addr} (w : World) {ca cb : Array Value} {ta tb : TypeId} (hne : a ≠ b) (ha : w.heap[a.block]? = some (.cells ca ta (0, 0))) (hb : w.heap[b.block]? = some (.cells cb tb (0, 0))) :
    (binOp .eql 24 (err a) (err b)).run Ybad.prog w = .ok (.bool false) w := by
  obtain ⟨i, hi, hc⟩ := Option.map_eq_some_iff.1 Ybad.comp38
  obtain ⟨j, hj, hs⟩ := Option.map_eq_some_iff.1 Ybad.size40
  exact run_eql_iface_ptr_other w Ybad.underlying24 Ybad.underlying38 hi hc hj (by rw [hs]; decide) hne ha hb

/-- all that stays as it is while the reader is read; S: the blocks that are written -/
structure Env (w : World) (Bs N cs sl : Nat) (sa : Option Addr) (aE aU ea : Addr) (src : List Int) (S : List Nat) : Prop where
  src : Src w Bs N src
  srcOut : Bs ∉ S
  sizes : Sizes w sa sl S
  N1 : N ≤ 2000
  N2 : N ≤ cs
  gE : w.cell? ⟨0, 0, none⟩ = some (err aE)
  gU : w.cell? ⟨1, 0, none⟩ = some (err aU)
  out0 : 0 ∉ S
  out1 : 1 ∉ S
  ne : aE ≠ aU
  bE : ∃ c t, w.heap[aE.block]? = some (.cells c t (0, 0))
  bU : ∃ c t, w.heap[aU.block]? = some (.cells c t (0, 0))
  be : ∃ c t, w.heap[ea.block]? = some (.cells c t (0, 0))
  oE : aE.block ∉ S
  oU : aU.block ∉ S
  oe : ea.block ∉ S
  eU : ea ≠ aU

theorem Env.kept {w w' : World} {Bs N cs sl : Nat} {sa : Option Addr} {aE aU ea : Addr} {src : List Int} {S : List Nat} (h : Env w Bs N cs sl sa aE aU ea src S) (hk : Kept S w w') : Env w' Bs N cs sl sa aE aU ea src S where
  src := ⟨h.src.1, fun j hj => by rw [hk.cell (by exact h.srcOut)]; exact h.src.2 j hj⟩
  srcOut := h.srcOut
  sizes := ⟨h.sizes.1, fun h0 => by
    obtain ⟨b, off, e, hb, hz⟩ := h.sizes.2 h0
    refine ⟨b, off, e, hb, fun j hj => ?_⟩
    obtain ⟨z, z0, z1, hc⟩ := hz j hj
    exact ⟨z, z0, z1, by rw [hk.cell (by exact hb)]; exact hc⟩⟩
  N1 := h.N1
  N2 := h.N2
  gE := by rw [hk.cell (by exact h.out0)]; exact h.gE
  gU := by rw [hk.cell (by exact h.out1)]; exact h.gU
  out0 := h.out0
  out1 := h.out1
  ne := h.ne
  bE := by rw [hk.block _ h.oE]; exact h.bE
  bU := by rw [hk.block _ h.oU]; exact h.bU
  be := by rw [hk.block _ h.oe]; exact h.be
  oE := h.oE
  oU := h.oU
  oe := h.oe
  eU := h.eU

theorem Env.drewN {w : World} {Bs N cs sl : Nat} {sa : Option Addr} {aE aU ea : Addr} {src : List Int} {S : List Nat} (h : Env w Bs N cs sl sa aE aU ea src S) (n : Nat) : Env (w.drewN n) Bs N cs sl sa aE aU ea src S := h.kept ((Kept.refl S w).drewN n)

theorem nil_ahead (a : Addr) (w : World) : (nilAhead 160 26 (.pointer (some a)) "Read").run Ybad.prog w = .ok (some false) w := by kernel_rfl
theorem method_read (a : Addr) (w : World) : (method 160 26 (.pointer (some a)) "Read").run Ybad.prog w = .ok (24, .pointer (some a)) w := by kernel_rfl

/-- the bytes of the source's first k, as cells -/
def srcCells (src : List Int) (k : Nat) : List Value := (src.take k).map (Value.int .u8)

/-- the state behind k bytes read into the head's block H -/
structure RS (w wr : World) (R H : Nat) (bv sv : Value) (ea : Addr) (src : List Int) (cur : List Value) (k : Nat) (i' c c' : Int) : Prop where
  rd : Blk wr R (rdc bv k sv i' (err ea) c') 28
  hd : Blk wr H (splice cur 0 (srcCells src k)) 5
  kp : Kept [R, H] w wr
  i0 : 0 ≤ i'
  i1 : i' ≤ c'
  c0 : c ≤ c'
  c1 : 0 < k → c + 1 ≤ c'

theorem splice_more (src : List Int) (cur : List Value) (k m : Nat) (h : k + m ≤ src.length) :
    splice (splice cur 0 (srcCells src k)) k (((src.drop k).take m).map (Value.int .u8)) = splice cur 0 (srcCells src (k + m)) := by
  have l1 : (srcCells src k).length = k := by simp [srcCells]; omega
  have l2 : (((src.drop k).take m).map (Value.int .u8)).length = m := by simp; omega
  have e1 : srcCells src (k + m) = srcCells src k ++ ((src.drop k).take m).map (Value.int .u8) := by
    unfold srcCells
    rw [List.take_add, List.map_append]
  unfold splice
  rw [l2, e1, List.length_append, l1, l2]
  simp only [List.take_zero, List.nil_append, Nat.zero_add]
  rw [List.take_left' l1, List.append_assoc]
  congr 2
  rw [List.drop_append, List.drop_eq_nil_of_le (by rw [l1]; omega), List.nil_append, l1, List.drop_drop]
  congr 1
  omega

theorem RS.more {w wr w' : World} {R H Bs N cs m : Nat} {sv : Value} {ea : Addr} {src : List Int} {cur : List Value} {k : Nat} {i' i'' c c' : Int} (h : RS w wr R H (.slice (some ⟨Bs, 0, none⟩) N cs) sv ea src cur k i' c c')
    (hl : k + m ≤ src.length) (hi0 : 0 ≤ i'') (hi1 : i'' ≤ c' + 1)
    (hR : Blk w' R (rdc (.slice (some ⟨Bs, 0, none⟩) N cs) (k + m) sv i'' (err ea) (c' + 1)) 28) (hH : Blk w' H (splice (splice cur 0 (srcCells src k)) k (((src.drop k).take m).map (Value.int .u8))) 5) (hK : Kept [R, H] wr w') :
    RS w w' R H (.slice (some ⟨Bs, 0, none⟩) N cs) sv ea src cur (k + m) i'' c (c' + 1) := by
  rw [splice_more src cur k m hl] at hH
  have := h.c0
  exact ⟨hR, hH, h.kp.trans hK, hi0, hi1, by omega, fun _ => by omega⟩

theorem RS.ended {w wr w' : World} {R H Bs N cs : Nat} {sv : Value} {ea : Addr} {src : List Int} {cur : List Value} {k : Nat} {i' c c' : Int} (h : RS w wr R H (.slice (some ⟨Bs, 0, none⟩) N cs) sv ea src cur k i' c c') (hHR : H ≠ R)
    (hR : Blk w' R (rdc (.slice (some ⟨Bs, 0, none⟩) N cs) k sv i' (err ea) (c' + 1)) 28) (hK : Kept [R] wr w') :
    RS w w' R H (.slice (some ⟨Bs, 0, none⟩) N cs) sv ea src cur k i' c (c' + 1) := by
  have a := h.c0
  have b := h.i1
  exact ⟨hR, h.hd.kept hK (by simpa using hHR), h.kp.trans (hK.mono (by simp)), h.i0, by omega, by omega, fun _ => by omega⟩

/-- what io.ReadFull answers for the error -/
def fullErr (N : Nat) (aE aU ea : Addr) : Value := if 3 ≤ N then .nilIface else if 0 < N ∧ ea = aE then err aU else err ea

set_option maxRecDepth 100000 in
set_option maxHeartbeats 1000000 in
theorem atleast (R N Bs cs sl sc H : Nat) (sa : Option Addr) (aE aU ea : Addr) (c : Int) (src : List Int) (cur : List Value) (w : World)
    (hR : Blk w R (rdc (.slice (some ⟨Bs, 0, none⟩) N cs) 0 (.slice sa sl sc) 0 (err ea) c) 28) (hH : Blk w H cur 5) (hHR : H ≠ R) (hE : Env w Bs N cs sl sa aE aU ea src [R, H])
    (hcur : cur.length = 3) (hc0 : 0 ≤ c) (hc1 : c ≤ 10000) :
    Calls Ybad.prog 8 #[.iface 26 (.pointer (some ⟨R, 0, none⟩)), .slice (some ⟨H, 0, none⟩) 3 3, .int .i64 3] w fun e w' => ∃ (k : Nat) (i' c' : Int), k = min 3 N ∧ e = .returned (.tuple #[.int .i64 (k : Int), fullErr N aE aU ea]) ∧
      RS w w' R H (.slice (some ⟨Bs, 0, none⟩) N cs) (.slice sa sl sc) ea src cur k i' c c' ∧ c + 1 ≤ c' ∧ c' ≤ c + 4 := by
  have H0 : Hid (RS w w R H (.slice (some ⟨Bs, 0, none⟩) N cs) (.slice sa sl sc) ea src cur 0 0 c c) := ⟨hR, by simpa [splice, srcCells] using hH, Kept.refl _ _, Int.le_refl _, hc0, Int.le_refl _, fun h => absurd h (Nat.lt_irrefl _)⟩
  have HE : Hid (Env w Bs N cs sl sa aE aU ea src [R, H]) := hE
  have HL : Hid (cur.length = 3) := hcur
  have hN1 : N ≤ 2000 := hE.N1
  have hN2 : N ≤ cs := hE.N2
  clear hR hH hE hcur
  have hna := nil_ahead
  have hmr := method_read
  go_enter Ybad.func8, Ybad.ntmps8
  go_wp2
  go_loopg [6, 7] 5 (fun gg n v wr => (∃ (k : Nat) (i' c' : Int), n = .int .i64 (k : Int) ∧ k ≤ 3 ∧ k ≤ N ∧ v = .nilIface ∧ gg = 5 - k ∧ RS w wr R H (.slice (some ⟨Bs, 0, none⟩) N cs) (.slice sa sl sc) ea src cur k i' c c' ∧ c' ≤ c + k) ∨
    (∃ (i' c' : Int), n = .int .i64 (N : Int) ∧ N < 3 ∧ v = err ea ∧ gg = 0 ∧ RS w wr R H (.slice (some ⟨Bs, 0, none⟩) N cs) (.slice sa sl sc) ea src cur N i' c c' ∧ c + 1 ≤ c' ∧ c' ≤ c + N + 1))
  case atStart => exact .inl ⟨0, 0, c, rfl, by omega, by omega, rfl, rfl, H0.out, by omega⟩
  case round =>
    rcases hrel with ⟨k, i', c', rfl, hk3, hkN, rfl, hgg, hrs, hcc⟩ | ⟨i', c', rfl, hN3, rfl, hgg, hrs, hcl, hcc⟩
    · have HRS : Hid (RS w wr R H (.slice (some ⟨Bs, 0, none⟩) N cs) (.slice sa sl sc) ea src cur k i' c c') := hrs
      clear hrs
      by_cases h3 : k = 3
      · subst h3
        have hF : Hid (fullErr N aE aU ea = .nilIface) := by show _ = _; unfold fullErr; rw [if_pos (by omega)]
        go_wp2
        go_ret2
        exact ⟨3, i', c', by omega, by rw [hF.out]; rfl, HRS.out, HRS.out.c1 (by omega), by omega⟩
      have hk3' : (k : Int) < 3 := by omega
      have hne3 : ¬ 3 = k := by omega
      have HEr : Hid (Env wr Bs N cs sl sa aE aU ea src [R, H]) := HE.out.kept HRS.out.kp
      by_cases hkN' : k < N
      · have hlen : Hid ((splice cur 0 (srcCells src k)).length = 3) := by
          have hl := HE.out.src.1
          show _ = _
          rw [length_splice _ _ _ (by rw [HL.out]; simp [srcCells]; omega), HL.out]
        go_upto_region 5 with fail
        go_cut [7, 8] (fun v nn wx => ∃ (m : Nat) (i'' : Int), 1 ≤ m ∧ k + m ≤ 3 ∧ k + m ≤ N ∧ nn = .int .i64 (m : Int) ∧ v = .nilIface ∧ RS w wx R H (.slice (some ⟨Bs, 0, none⟩) N cs) (.slice sa sl sc) ea src cur (k + m) i'' c (c' + 1))
        case first =>
          go_region_with (go_at_call 24; refine (read_some R N Bs cs k sl sc H k (3 - k) _ sa (err ea) i' c' src (splice cur 0 (srcCells src k)) _ (by exact HRS.out.rd) (by exact HRS.out.hd) hHR (by exact HEr.out.src) (by have := HEr.out.srcOut; simp at this; exact this.1) (by exact HEr.out.sizes) hN1 hN2 hkN' (by omega) (by omega) (by rw [hlen.out]; omega) (by omega) HRS.out.i0 HRS.out.i1).mono ?_; rintro e w' ⟨m, i'', q1, q2, q3, q4, q5, rfl, q6, q7, q8⟩)
          all_goals (go_wp2_with fail; go_meet; exact ⟨m, i'', q1, by omega, q3, rfl, rfl, HRS.out.more (by rw [HE.out.src.1]; exact q3) q4 q5 q6 q7 (((Kept.refl _ wr).drew).trans q8)⟩)
        case rest =>
          obtain ⟨m, i'', q1, q2, q3, rfl, rfl, q4⟩ := hcut
          have HQ : Hid (RS w wc R H (.slice (some ⟨Bs, 0, none⟩) N cs) (.slice sa sl sc) ea src cur (k + m) i'' c (c' + 1)) := q4
          clear q4 HRS HEr
          go_wp2
          go_roundg (5 - (k + m))
          case measure => omega
          case rel => exact .inl ⟨k + m, i'', c' + 1, by go_num, q2, q3, rfl, rfl, HQ.out, by omega⟩
      · obtain rfl : k = N := by omega
        go_upto_region 5 with fail
        go_cut [7, 8] (fun v nn wx => nn = .int .i64 0 ∧ v = err ea ∧ RS w wx R H (.slice (some ⟨Bs, 0, none⟩) k cs) (.slice sa sl sc) ea src cur k i' c (c' + 1))
        case first =>
          go_region_with (go_at_call 24; refine (read_end R k Bs cs _ (err ea) i' c' _ _ _ _ (by exact HRS.out.rd) (by have := HRS.out.i0; have := HRS.out.i1; omega) (by omega)).mono ?_; rintro e w' ⟨rfl, q6, q8⟩)
          all_goals (go_wp2_with fail; go_meet; exact ⟨rfl, rfl, HRS.out.ended hHR q6 (((Kept.refl _ wr).drew).trans q8)⟩)
        case rest =>
          obtain ⟨rfl, rfl, q4⟩ := hcut
          have HQ : Hid (RS w wc R H (.slice (some ⟨Bs, 0, none⟩) k cs) (.slice sa sl sc) ea src cur k i' c (c' + 1)) := q4
          have hcq : Hid (c ≤ c') := HRS.out.c0
          clear q4 HRS HEr
          go_wp2
          go_roundg 0
          case measure => omega
          case rel => exact .inr ⟨i', c' + 1, by go_num, by omega, rfl, rfl, HQ.out, by have := hcq.out; omega, by omega⟩
    · have HRS : Hid (RS w wr R H (.slice (some ⟨Bs, 0, none⟩) N cs) (.slice sa sl sc) ea src cur N i' c c') := hrs
      have HEr : Hid (Env wr Bs N cs sl sa aE aU ea src [R, H]) := HE.out.kept hrs.kp
      clear hrs
      have hN3' : (N : Int) < 3 := by omega
      have gE : wr.cell? ⟨0, 0, none⟩ = some (err aE) := HEr.out.gE
      have gU : wr.cell? ⟨1, 0, none⟩ = some (err aU) := HEr.out.gU
      by_cases hN0 : N = 0
      · subst hN0
        have hF : Hid (fullErr 0 aE aU ea = err ea) := by show _ = _; unfold fullErr; simp
        go_wp2
        go_ret2
        exact ⟨0, i', c', by omega, by rw [hF.out]; rfl, HRS.out, hcl, by omega⟩
      have hN0' : (0 : Int) < (N : Int) := by omega
      by_cases hee : ea = aE
      · subst hee
        have hF : Hid (fullErr N ea aU ea = err aU) := by show _ = _; unfold fullErr; rw [if_neg (by omega), if_pos ⟨by omega, rfl⟩]
        have heq := eql_same ea wr
        go_wp2
        go_ret2
        exact ⟨N, i', c', by omega, by rw [hF.out]; rfl, HRS.out, hcl, by omega⟩
      · have hF : Hid (fullErr N aE aU ea = err ea) := by show _ = _; unfold fullErr; rw [if_neg (by omega), if_neg (fun h => hee h.2)]
        have heq : (binOp .eql 24 (err ea) (err aE)).run Ybad.prog wr = .ok (.bool false) wr := by
          obtain ⟨c1, t1, h1⟩ := HEr.out.be
          obtain ⟨c2, t2, h2⟩ := HEr.out.bE
          exact eql_other wr hee h1 h2
        go_wp2
        go_ret2
        exact ⟨N, i', c', by omega, by rw [hF.out]; rfl, HRS.out, hcl, by omega⟩
end Go.Proofs.YbulkcgzuDoor
