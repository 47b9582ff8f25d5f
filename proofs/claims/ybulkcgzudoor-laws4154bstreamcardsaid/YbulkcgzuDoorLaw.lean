import Derived.Test.YbulkcgzuDoorPrep
/-! The walk of 'LawS4154BStream' (function 3). -/
namespace Go.Proofs.YbulkcgzuDoor
open Go.RowKit

set_option maxRecDepth 100000 in
set_option maxHeartbeats 1000000 in
theorem stream_law (a1 : Option Addr) (n1 c1 : Nat) (z1 : List Int) (wm : Bool) (a2 : Option Addr) (n2 c2 : Nat) (bl : Int) (fl : Bool) (aE aU : Addr) (w : World) (hIn : Given w a1 n1 c1 z1 a2 n2 aE aU) (h1 : n1 ≤ 1024) (h2 : n2 ≤ 1024) (hb0 : 0 ≤ bl) (hb1 : bl ≤ 255) :
    Calls Ybad.prog 3 #[.slice a1 n1 c1, .bool wm, .slice a2 n2 c2, .int .u8 bl, .bool fl] w fun e w' => e = .returned (.bool true) ∧ Below w.heap.size w w' := by
  obtain ⟨i0, hi, hz0, hz1, hz2⟩ := info_parts Ybad.info5
  have t1 : decide ((1024 : Int) < (n1 : Int)) = false := by simp; omega
  have t2 : decide ((1024 : Int) < (n2 : Int)) = false := by simp; omega
  have HIn : Hid (Given w a1 n1 c1 z1 a2 n2 aE aU) := hIn
  clear hIn
  obtain ⟨P, hP⟩ : ∃ P : List Int, P = if wm then [239, 187, 191] else [] := ⟨_, rfl⟩
  have hPl : P.length ≤ 3 := by rw [hP]; cases wm <;> simp
  have HP : Hid (P = if wm then [239, 187, 191] else []) := hP
  clear hP
  go_enter Ybad.func3, Ybad.ntmps3
  go_upto_if 36 with (at_make; refine wpList_make_own _ rfl _ _ 22 rfl w.heap.size 5 i0 (.int .u8 0) 1 Ybad.underlying22 hi hz0 hz1 .i64 .i64 _ (n1 + 3) rfl rfl (by omega) (by rw [hz2]; omega) (by unfold maxLen; omega) (Nat.le_refl _) ?_; intro w1 hown hgrow)
  have HB1 : Hid (Below w.heap.size w w1) := (Below.refl _ _).grown hgrow (Nat.le_refl _) (by simp)
  have HO1 : Hid (w1.ownsRow w.heap.size 5 1 (.slice (some ⟨w.heap.size, 0, none⟩) 0 (n1 + 3)) 0 []) := hown
  clear hown hgrow
  go_cut [1, 11] (fun t v wx => t = .bool wm ∧ v ≠ .slice none 0 0 ∧ wx.ownsRow w.heap.size 5 1 v P.length (P.map (Value.int .u8)) ∧ Below w.heap.size w wx)
  case first =>
    cases wm with
    | false =>
      obtain rfl : P = [] := HP.out
      go_wp2_with fail
      go_meet
      case rel => exact ⟨rfl, by simp, HO1.out, HB1.out⟩
    | true =>
      obtain rfl : P = [239, 187, 191] := HP.out
      go_wp2_with (at_builtin; refine Lib.wpList_append_own_string _ rfl (.tmp 37) _ 22 9 rfl w.heap.size 5 i0 Ybad.underlying22 Ybad.underlying9 hi hz0 hz1 hz2 _ 0 [] rfl HO1.out ⟨#[239, 187, 191]⟩ rfl (by decide) (by decide) (by have := HB1.out.size; omega) ?_; intro v2 w2 hown2 hgrow2 hnil2)
      go_meet
      case rel => exact ⟨rfl, (fun hx => absurd (hnil2.1 hx).2 (by decide)), hown2, HB1.out.grown hgrow2 HB1.out.size (fun k hk => (HO1.out.lt k hk).1)⟩
  case rest =>
    obtain ⟨rfl, hne2, hown2, hB2⟩ := hcut
    obtain ⟨w2, hw2⟩ : ∃ w2, w2 = wc := ⟨_, rfl⟩
    rw [← hw2] at hown2 hB2 ⊢
    clear hw2 wc HO1 HB1
    obtain ⟨v2, hv2⟩ : ∃ v2, v2 = u11 := ⟨_, rfl⟩
    rw [← hv2] at hne2 hown2 ⊢
    clear hv2 u11
    have HN2 : Hid (v2 ≠ .slice none 0 0) := hne2
    have HO2 : Hid (w2.ownsRow w.heap.size 5 1 v2 P.length (P.map (Value.int .u8))) := hown2
    have HB2 : Hid (Below w.heap.size w w2) := hB2
    clear hne2 hown2 hB2
    obtain ⟨src, hsrc⟩ : ∃ src, src = P ++ z1.take n1 := ⟨_, rfl⟩
    have HSRC : Hid (src = P ++ z1.take n1) := hsrc
    have hNl : src.length = P.length + n1 := by rw [hsrc]; have := HIn.out.d1; simp; omega
    have HNL : Hid (src.length = P.length + n1) := hNl
    obtain ⟨N, hN⟩ : ∃ N, N = src.length := ⟨_, rfl⟩
    have HN : Hid (N = src.length) := hN
    have hNb : N ≤ 1027 := by omega
    clear hsrc hNl hN
    go_upto_region 6 with fail
    go_cut [0, 11] (fun t v wx => t = .slice a1 n1 c1 ∧ (∃ g cp, v = .slice (some ⟨g, 0, none⟩) N cp ∧ N ≤ cp) ∧ wx.ownsRow w.heap.size 5 1 v N (src.map (Value.int .u8)) ∧ Below w.heap.size w wx)
    case first =>
      cases hx : a1 with
      | none =>
        obtain ⟨rfl, rfl⟩ := HIn.out.d0 hx
        subst hx
        go_wp2_with (at_builtin; refine wpList_append_own_none rfl (.tmp 39) (.tmp 40) 22 rfl w.heap.size 5 i0 1 Ybad.underlying22 hi _ _ _ rfl HO2.out rfl ?_)
        go_meet
        case rel =>
          have e : src = P := by rw [HSRC.out]; simp
          have hN : N = P.length := by rw [HN.out, e]
          have ho : w2.ownsRow w.heap.size 5 1 v2 N (src.map (Value.int .u8)) := by rw [e, hN]; exact HO2.out
          exact ⟨rfl, own_shape ho HN2.out, ho, HB2.out⟩
      | some x =>
        have hxx := data_news HIn.out hx HB2.out
        have hnl : ((z1.take n1).map (Value.int .u8)).length = n1 * 1 := by have := HIn.out.d1; simp; omega
        have HX : Hid (∀ j u, ((z1.take n1).map (Value.int .u8))[j]? = some u → w2.cell? (x.add j) = some u) := hxx
        have HXL : Hid (((z1.take n1).map (Value.int .u8)).length = n1 * 1) := hnl
        clear hxx hnl
        subst hx
        go_wp2_with (at_builtin; refine wpList_append_own _ rfl (.tmp 39) (.tmp 40) 22 rfl w.heap.size 5 i0 (.int .u8 0) 1 1 Ybad.underlying22 hi hz0 hz1 hz2 rfl (by decide) _ _ _ rfl HO2.out x n1 c1 ((z1.take n1).map (Value.int .u8)) rfl HXL.out HX.out (ints_oneCell _ _) (by unfold maxLen; omega) (by omega) (by have := HB2.out.size; omega) ?_; intro v3 w3 hown3 hgrow3 hnil3)
        go_meet
        case rel =>
          have ho : w3.ownsRow w.heap.size 5 1 v3 N (src.map (Value.int .u8)) := by rw [HN.out, HNL.out, HSRC.out, List.map_append]; exact hown3
          exact ⟨rfl, own_shape ho (fun h => HN2.out (hnil3.1 h).1), ho, HB2.out.grown hgrow3 HB2.out.size (fun k hk => (HO2.out.lt k hk).1)⟩
    case rest =>
      obtain ⟨rfl, ⟨g, cp, rfl, hNcp⟩, hown3, hB3⟩ := hcut
      obtain ⟨w3, hw3⟩ : ∃ w3, w3 = wc := ⟨_, rfl⟩
      rw [← hw3] at hown3 hB3 ⊢
      clear hw3 wc HO2 HB2 HN2
      have HO3 : Hid (w3.ownsRow w.heap.size 5 1 (.slice (some ⟨g, 0, none⟩) N cp) N (src.map (Value.int .u8))) := hown3
      have HB3 : Hid (Below w.heap.size w w3) := hB3
      have gE : w3.cell? ⟨0, 0, none⟩ = some (err aE) := (hB3.cell (World.block_lt_of_cell? w _ HIn.out.gE)).trans HIn.out.gE
      clear hown3 hB3
      go_upto_if 43 with fail
      go_cut [4, 12] (fun t v wx => t = .bool fl ∧ ∃ ea, v = err ea ∧ EndOk w wx aE aU ea ∧ wx.ownsRow w.heap.size 5 1 (.slice (some ⟨g, 0, none⟩) N cp) N (src.map (Value.int .u8)) ∧ Below w.heap.size w wx)
      case first =>
        cases fl with
        | false =>
          go_wp2_with fail
          go_meet
          case rel => exact ⟨rfl, aE, rfl, end_eof HIn.out.ne HIn.out.bE HB3.out, HO3.out, HB3.out⟩
        | true =>
          go_wp2
          go_meet
          case rel => exact ⟨rfl, _, rfl, end_new HIn.out.bE HIn.out.bU HB3.out, HO3.out.alloc _, HB3.out.alloc HB3.out.size _⟩
      case rest =>
        obtain ⟨rfl, ea, rfl, hend, hown4, hB4⟩ := hcut
        obtain ⟨w4, hw4⟩ : ∃ w4, w4 = wc := ⟨_, rfl⟩
        rw [← hw4] at hend hown4 hB4 ⊢
        clear hw4 wc HO3 HB3 gE
        have HO4 : Hid (w4.ownsRow w.heap.size 5 1 (.slice (some ⟨g, 0, none⟩) N cp) N (src.map (Value.int .u8))) := hown4
        have HB4 : Hid (Below w.heap.size w w4) := hB4
        have HEND : Hid (EndOk w w4 aE aU ea) := hend
        clear hown4 hB4 hend
        have hNc : (N : Int) ≤ (cp : Int) := by omega
        go_upto_region 11 with fail
        go_cut [66] (fun v wx => v = .bool (decide (src.take 3 = [239, 187, 191])) ∧ w4 = wx)
        case first =>
          by_cases h3 : 3 ≤ N
          · obtain ⟨x0, x1, x2, r, hx⟩ : ∃ x0 x1 x2 r, src = x0 :: x1 :: x2 :: r := three (by have := HN.out; omega)
            have k0 : w4.cell? ⟨g, 0, none⟩ = some (.int .u8 x0) := by rw [HO4.out.cellAt 0 (by omega), hx]; rfl
            have k1 : w4.cell? ⟨g, 1, none⟩ = some (.int .u8 x1) := by rw [HO4.out.cellAt 1 (by omega), hx]; rfl
            have k2 : w4.cell? ⟨g, 2, none⟩ = some (.int .u8 x2) := by rw [HO4.out.cellAt 2 (by omega), hx]; rfl
            have HX : Hid (decide (src.take 3 = [239, 187, 191]) = (x0 == 239 && (x1 == 187 && x2 == 191))) := by show _ = _; rw [hx]; exact three_eq x0 x1 x2 r
            have h3' : (3 : Int) ≤ (N : Int) := by omega
            clear hx
            cases e0 : (x0 == 239) <;> cases e1 : (x1 == 187) <;> cases e2 : (x2 == 191) <;>
              (go_wp2_with fail; go_meet; exact ⟨by rw [HX.out, e0, e1, e2]; rfl, rfl⟩)
          · have h3' : decide ((3 : Int) ≤ (N : Int)) = false := by simp; omega
            go_wp2_with fail
            go_meet
            case rel => exact ⟨by rw [decide_eq_false (short3 (by have := HN.out; omega))], rfl⟩
        case rest =>
          obtain ⟨rfl, rfl⟩ := hcut
          obtain ⟨mk, hmk⟩ : ∃ mk, mk = decide (src.take 3 = [239, 187, 191]) := ⟨_, rfl⟩
          rw [← hmk]
          have HMK : Hid (mk = decide (src.take 3 = [239, 187, 191])) := hmk
          clear hmk
          go_upto_if 66 with fail
          go_cut [13] (fun v wx => (∃ wa wn wp, v = .slice wa wn wp ∧ Reads w4 wa wn (wantOf src) ∧ ∀ b o, wa = some ⟨b, o, none⟩ → b = g) ∧ w4 = wx)
          case first =>
            have hrd : Hid (Reads w4 (some ⟨g, 0, none⟩) N src) := own_reads HO4.out
            cases mk with
            | true =>
              have h3 : 3 ≤ N := by have := long3 HMK.out; have := HN.out; omega
              have h3' : (3 : Int) ≤ (N : Int) := by omega
              by_cases hc3 : cp = 3
              · subst hc3
                go_wp2_with fail
                go_meet
                case rel => exact ⟨⟨_, _, _, rfl, want_drop0 HMK.out HN.out (by omega), fun b o e => by simp at e; exact e.1.symm⟩, rfl⟩
              · go_wp2_with fail
                go_meet
                case rel => exact ⟨⟨_, _, _, rfl, want_drop HMK.out hrd.out h3, fun b o e => by simp at e; exact e.1.symm⟩, rfl⟩
            | false =>
              go_wp2_with fail
              go_meet
              case rel => exact ⟨⟨_, _, _, rfl, want_same HMK.out hrd.out, fun b o e => by simp at e; exact e.1.symm⟩, rfl⟩
          case rest =>
            obtain ⟨⟨wa, wn, wp, rfl, hwr, hwg⟩, rfl⟩ := hcut
            have HWR : Hid (Reads w4 wa wn (wantOf src)) := hwr
            have HWG : Hid (∀ b o, wa = some ⟨b, o, none⟩ → b = g) := hwg
            clear hwr hwg HMK
            obtain ⟨lp, hlp⟩ : ∃ lp : Nat, (lp : Int) = bl % 5 + 1 := ⟨(bl % 5 + 1).toNat, by omega⟩
            have hlp1 : 1 ≤ lp := by omega
            have hlp5 : lp ≤ 5 := by omega
            have hlp' : bl % 5 + 1 = (lp : Int) := hlp.symm
            clear hlp
            go_wp2_with (at_make; refine wpList_make_full _ rfl _ _ 22 rfl (w4.heap.size + 2) 5 i0 (.int .u8 0) 1 Ybad.underlying22 hi hz0 hz1 .i64 .i64 _ _ lp rfl rfl rfl rfl (by rw [hz2]; omega) (by unfold maxLen; omega) (by simp) ?_; intro wb hownb hgrowb)
            have HBASE : Hid (Base w w4 wb g N cp n2 c2 lp a2 aE aU ea src) := base_facts HIn.out h2 HN.out (by omega) hNcp HO4.out HB4.out HEND.out hownb hgrowb
            have HWB : Hid (Reads wb wa wn (wantOf src)) := base_reads HWR.out hgrowb
            clear hownb hgrowb hi hz0 hz1 hz2 HWR HEND HO4 t1 t2
            have hsb : Hid (∀ z, z ∈ src → 0 ≤ z ∧ z ≤ 255) := src_bytes HSRC.out HP.out HIn.out.db
            obtain ⟨R, hRdef⟩ : ∃ R, R = w4.heap.size := ⟨_, rfl⟩
            rw [← hRdef]
            have HRD : Hid (R = w4.heap.size) := hRdef
            clear hRdef
            have HBR : Hid (BaseR w wb R g N cp n2 c2 lp a2 aE aU ea src) := by rw [HRD.out]; exact HBASE.out
            clear HBASE
            obtain ⟨i1, hi, hz0, hz1, hz2⟩ := info_parts Ybad.info5
            have hwl : (wantOf src).length ≤ N := by rw [HN.out]; exact want_le src
            go_loopg [17, 18, 19] ((wantOf src).length + 1) (fun gg out last i wr => ∃ (j : Nat) (D rem : List Int) (fr : Bool) (B : Nat) (c : Int), last = .nilIface ∧ i = .int .i64 (j : Int) ∧ D ++ rem = wantOf src ∧ j + rem.length ≤ N ∧ gg = rem.length + 1 ∧ c ≤ 6 * j ∧
              St wb wr R (R + 1) (R + 1 + 1) (.slice (some ⟨g, 0, none⟩) N cp) (.slice a2 n2 c2) ea src N lp B fr c D rem out)
            case atStart => exact ⟨0, [], wantOf src, true, wb.heap.size, 0, rfl, rfl, rfl, by omega, rfl, by omega, HBR.out.st⟩
            case round =>
              obtain ⟨j, D, rem, fr, B, c, rfl, rfl, hDr, hjr, rfl, hcj, hst⟩ := hrel
              have HST : Hid (St wb wr R (R + 1) (R + 1 + 1) (.slice (some ⟨g, 0, none⟩) N cp) (.slice a2 n2 c2) ea src N lp B fr c D rem u17) := hst
              have HDR : Hid (D ++ rem = wantOf src) := hDr
              have hDl : D.length + rem.length ≤ N := by have := congrArg List.length hDr; rw [List.length_append] at this; omega
              have hji : (j : Int) < (N : Int) + 8 := by omega
              have hRb : R + 1 + 1 < wb.heap.size := HBR.out.rlt
              have HEr : Hid (Env wr g N cp n2 a2 aE aU ea src [R, R + 1, R + 1 + 1]) := HBR.out.env.grew hst.gr (by have := HBR.out.glt; omega) (fun x hx => .inl hx)
              obtain ⟨gc, hgc, hgl⟩ := hst.bf
              have HGC : Hid (Blk wr (R + 1 + 1) gc 5) := hgc
              have HGL : Hid (gc.length = lp) := hgl
              clear hst hDr hgc hgl
              go_wp2_with fail
              refine (skip_read R (R + 1) (R + 1 + 1) N g cp n2 c2 lp B a2 aE aU ea c src rem gc fr _ (by exact HST.out.ask) (by exact HGC.out) HGL.out hlp1 hlp5 (by omega) (by omega) (by omega) (by exact HEr.out) (by have := HBR.out.glt; have := HST.out.gr.size; omega) (by exact HST.out.b1) (by omega) hsb.out).mono ?_
              rintro e w5 ⟨B', c', gc', q1, q2, q3, q4, q5, q6, q7, q8⟩
              have HOWN : Hid (w5.ownsRow B' 5 1 u17 D.length (D.map (Value.int .u8))) := HST.out.own_after q7 (by omega) (by omega) (by omega) q3
              have HQ5 : Hid (Blk w5 (R + 1 + 1) gc' 5) := q5
              have HQ6 : Hid (gc'.length = lp) := q6
              have HQ7 : Hid (Grew [R, R + 1, R + 1 + 1] wr w5) := q7
              clear q5 q6 q7 q3
              rcases q8 with ⟨hr0, rfl, hL⟩ | ⟨m, m1, m2, m3, rfl, m4, hL⟩
              · subst hr0
                have HL : Hid (Looked w5 R (R + 1) (R + 1 + 1) (.slice (some ⟨g, 0, none⟩) N cp) (.slice a2 n2 c2) ea src N B' [] c') := hL
                clear hL
                have hneq := neq_same ea
                go_wp2_with (at_builtin; refine wpList_append_own _ rfl (.tmp 104) (.tmp 107) 22 rfl B' 5 i1 (.int .u8 0) 1 1 Ybad.underlying22 hi hz0 hz1 hz2 rfl (by decide) _ _ _ rfl HOWN.out ⟨R + 1 + 1, 0, none⟩ 0 lp [] rfl rfl (fun t u h => by simp at h) (fun u h => by simp at h) (by unfold maxLen; omega) (by omega) q1 ?_; intro v6 w6 hown6 hgrow6 hnil6)
                have HST6 : Hid (St wb w6 R (R + 1) (R + 1 + 1) (.slice (some ⟨g, 0, none⟩) N cp) (.slice a2 n2 c2) ea src N lp B' false c' (D ++ []) [] v6) := HST.out.step (m := 0) HQ7.out (by omega) (by omega) (by omega) q1 q2 HQ5.out HQ6.out (Nat.le_refl _) HL.out hown6 hgrow6 (fun k hk => (HOWN.out.lt k hk).1)
                clear hown6 hgrow6 hnil6 HOWN HQ5 HQ6 HQ7 HL HST HEr HGC HGL
                have HE6 : Hid (Env w6 g N cp n2 a2 aE aU ea src [R, R + 1, R + 1 + 1]) := HBR.out.env.grew HST6.out.gr (by have := HBR.out.glt; omega) (fun x hx => .inl hx)
                obtain ⟨gc6, hgc6, hgl6⟩ := HST6.out.bf
                have HGC : Hid (Blk w6 (R + 1 + 1) gc6 5) := hgc6
                have HGL : Hid (gc6.length = lp) := hgl6
                clear hgc6 hgl6
                refine (skip_read R (R + 1) (R + 1 + 1) N g cp n2 c2 lp B' a2 aE aU ea c' src [] gc6 false _ (by exact HST6.out.ask) (by exact HGC.out) HGL.out hlp1 hlp5 (by omega) (by omega) (by omega) (by exact HE6.out) (by have := HBR.out.glt; have := HST6.out.gr.size; omega) (by exact HST6.out.b1) (by omega) hsb.out).mono ?_
                rintro e w7 ⟨B7, c7, gc7, r1, r2, r3, r4, r5, r6, r7, r8⟩
                rcases r8 with ⟨hx8, rfl, hL7⟩ | ⟨m, m1, m2, m3, hx8⟩
                · clear hx8
                  obtain ⟨hv7, ev7, k7, i7, hs7, hLA, hx7⟩ := hL7
                  clear hx7
                  have k5 : w7.cell? ⟨R, 5, none⟩ = some (.int .i64 c7) := hLA.rd.cell 5
                  have hc7 : (c7 == 0) = false := beq_eq_false_iff_ne.2 (by have := hLA.c1; omega)
                  have HG7 : Hid (Grew [R, R + 1, R + 1 + 1] wb w7) := HST6.out.gr.trans r7
                  have HO7 : Hid (w7.ownsRow B7 5 1 v6 (D ++ []).length ((D ++ []).map (Value.int .u8))) := HST6.out.own_after r7 (by omega) (by omega) (by omega) r3
                  clear hLA r1 r2 r3 r4 r5 r6 r7
                  obtain ⟨ao, co, rfl, hro⟩ := reads_own HO7.out
                  have HRO : Hid (Reads w7 ao (D ++ []).length (wantOf src)) := by rw [← HDR.out]; exact hro
                  have HRW : Hid (Reads w7 wa wn (wantOf src)) := HWB.out.grew HG7.out (fun b o e => by have := HWG.out b o e; have := HBR.out.glt; simp; omega)
                  have HLOW : Hid (Below w.heap.size w w7) := low_grew HBR.out.low HG7.out HBR.out.wR (by omega)
                  clear hro HO7
                  go_wp2_with fail
                  refine (equal_calls ao wa _ _ wn wp (wantOf src) _ (by have h := HRO.out; rw [List.append_nil] at h; exact h) (by exact HRW.out)).mono ?_
                  rintro e w8 ⟨rfl, rfl⟩
                  go_wp2_with fail
                  go_ret
                  exact ⟨rfl, HLOW.out⟩
                · exact absurd m3 (by simp; omega)
              · have HL : Hid (Looked w5 R (R + 1) (R + 1 + 1) (.slice (some ⟨g, 0, none⟩) N cp) (.slice a2 n2 c2) ea src N B' (rem.drop m) c') := hL
                have HNW : Hid (∀ t u, ((rem.take m).map (Value.int .u8))[t]? = some u → w5.cell? ((⟨R + 1 + 1, 0, none⟩ : Addr).add t) = some u) := news_of HQ5.out m4
                have HNL2 : Hid (((rem.take m).map (Value.int .u8)).length = m * 1) := by show _ = _; simp; omega
                clear hL m4
                have hml : (m : Int) ≤ (lp : Int) := by omega
                go_wp2_with (at_builtin; refine wpList_append_own _ rfl (.tmp 104) (.tmp 107) 22 rfl B' 5 i1 (.int .u8 0) 1 1 Ybad.underlying22 hi hz0 hz1 hz2 rfl (by decide) _ _ _ rfl HOWN.out ⟨R + 1 + 1, 0, none⟩ m lp ((rem.take m).map (Value.int .u8)) rfl HNL2.out HNW.out (ints_oneCell _ _) (by unfold maxLen; omega) (by omega) q1 ?_; intro v6 w6 hown6 hgrow6 hnil6)
                have HST6 : Hid (St wb w6 R (R + 1) (R + 1 + 1) (.slice (some ⟨g, 0, none⟩) N cp) (.slice a2 n2 c2) ea src N lp B' false c' (D ++ rem.take m) (rem.drop m) v6) := HST.out.step HQ7.out (by omega) (by omega) (by omega) q1 q2 HQ5.out HQ6.out m3 HL.out hown6 hgrow6 (fun k hk => (HOWN.out.lt k hk).1)
                clear hown6 hgrow6 hnil6
                go_roundg ((rem.drop m).length + 1)
                case measure => rw [List.length_drop]; omega
                case rel => exact ⟨j + 1, D ++ rem.take m, rem.drop m, false, B', c', rfl, by go_num, by rw [List.append_assoc, List.take_append_drop]; exact HDR.out, by rw [List.length_drop]; omega, rfl, by omega, HST6.out⟩
end Go.Proofs.YbulkcgzuDoor
