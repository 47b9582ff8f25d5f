import Derived.Test.YbulkcgzuFmtTail
/-! The walk of 'LawS4154CText' (function 5). -/
namespace Go.Proofs.YbulkcgzuFmt
open Go.RowKit Go.Extern.Stop Go.Stop Go.Extern Go.WideMaps Go.Maps

set_option maxRecDepth 100000 in
set_option maxHeartbeats 1000000 in
theorem text_law (F : Interp) (a0 a1 a2 a3 : Int) (a4 : Option Addr) (len c4 : Nat) (ss : List ByteArray) (a5 a6 : Int) (w : World) (hF : F.answers w.tape) (ncol nrow N idx : Nat) (hS : SCame w a4 len ss)
    (hnc : a0 % 6 + 1 = (ncol : Int)) (hnr : a1 % 4 + 1 = (nrow : Int)) (hid : a2 % (nrow : Int) = (idx : Int)) (hN : (nrow : Int) * (ncol : Int) = (N : Int)) (hnc1 : 1 ≤ ncol) (hnc6 : ncol ≤ 6) (hnr1 : 1 ≤ nrow) (hnr4 : nrow ≤ 4)
    (z0 : 0 ≤ a0) (z0' : a0 ≤ 255) (z1 : 0 ≤ a1) (z1' : a1 ≤ 255) (z2 : 0 ≤ a2) (z2' : a2 ≤ 255) (z3 : 0 ≤ a3) (z3' : a3 ≤ 255) (_z5 : 0 ≤ a5) (_z5' : a5 ≤ 4294967295) :
    Calls Ybaf.prog 5 #[.int .u8 a0, .int .u8 a1, .int .u8 a2, .int .u8 a3, .slice a4 len c4, .int .u32 a5, .int .i64 a6] w fun e w' => e = .returned (.bool true) ∧ Below w.heap.size w w' := by
  have HS : Hid (SCame w a4 len ss) := hS
  have hN24 : N ≤ 24 := by
    have : nrow * ncol = N := by exact_mod_cast hN
    rw [← this]; exact Nat.mul_le_mul hnr4 hnc6
  have hnr0 : (nrow : Int) ≠ 0 := by omega
  clear hS
  obtain ⟨i9, hi9, h90, h91, h92⟩ := info_parts Ybaf.info9
  have hid0 : Hid (a2 % (nrow : Int) = (idx : Int)) := hid
  have hmk : ∀ W, (Instr.makeMap 30 (some (.int .i64 (ncol : Int)))).run Ybaf.prog W = .ok (.map (some W.heap.size)) (W.alloc (.map #[] 0)) := make_map ncol
  go_enter Ybaf.func5, Ybaf.ntmps5
  go_wp2_with fail
  rw [hid0.out]
  go_loopg [18] N (fun gg i wr => ∃ k : Nat, k ≤ N ∧ k ≤ len ∧ gg = N - k ∧ (∀ j, j < k → (ss.getD j ByteArray.empty).size ≤ 4096) ∧ i = .int .i64 (k : Int) ∧ w = wr)
  case atStart => exact ⟨0, Nat.zero_le _, Nat.zero_le _, rfl, fun j hj => absurd hj (by omega), rfl, rfl⟩
  case round =>
    obtain ⟨k, hk1, hk2, rfl, hkk, rfl, rfl⟩ := hrel
    have HK : Hid (∀ j, j < k → (ss.getD j ByteArray.empty).size ≤ 4096) := hkk
    clear hkk
    by_cases hlt : k < N ∧ k < len
    · obtain ⟨b, off, rfl, hc⟩ := HS.out.at (Below.refl _ _) hlt.2
      have hl1 : (k : Int) < (N : Int) := by omega
      have hl2 : (k : Int) < (len : Int) := by omega
      obtain ⟨s, hs⟩ : ∃ s, s = ss.getD k ByteArray.empty := ⟨_, rfl⟩
      rw [← hs] at hc
      have HSS : Hid (s = ss.getD k ByteArray.empty) := hs
      clear hs hlt
      by_cases hbig : 4096 < s.size
      · have hb' : (4096 : Int) < (s.size : Int) := by omega
        go_wp2_with fail
        go_ret
        exact ⟨rfl, Below.refl _ _⟩
      · have hb' : decide ((4096 : Int) < (s.size : Int)) = false := by simp; omega
        go_wp2_with fail
        go_roundg (N - (k + 1))
        case measure => omega
        case rel => exact ⟨k + 1, by omega, by omega, rfl, fun j hj => by
          by_cases e : j = k
          · subst e; rw [← HSS.out]; omega
          · exact HK.out j (by omega), by go_num, rfl⟩
    · have HSZ : Hid (∀ j, j < N → j < len → (ss.getD j ByteArray.empty).size ≤ 4096) := fun j h1 h2 => HK.out j (by omega)
      clear HK
      go_upto_region 5 with fail
      go_cut [62] (fun v wx => v = .bool false ∧ w = wx)
      case first =>
        by_cases hl1 : k < N
        · have hl1' : (k : Int) < (N : Int) := by omega
          have hl2' : decide ((k : Int) < (len : Int)) = false := by simp; omega
          have hl2n : decide (k < len) = false := by simp; omega
          go_wp2_with fail
          go_meet
          case rel => exact ⟨rfl, rfl⟩
        · have hl1' : decide ((k : Int) < (N : Int)) = false := by simp; omega
          go_wp2_with fail
          go_meet
          case rel => exact ⟨rfl, rfl⟩
      case rest =>
        obtain ⟨rfl, rfl⟩ := hcut
        clear hlt hk1 hk2
        go_wp2_with (at_make; refine wpList_make_full _ rfl _ _ 28 rfl w.heap.size 9 i9 (.string ⟨#[]⟩) 1 Ybaf.underlying28 hi9 h90 h91 .i64 .i64 _ _ ncol rfl rfl rfl rfl (by rw [h92]; omega) (by unfold maxLen; omega) (Nat.le_refl _) ?_; intro w1 hown hgrow)
        have H0 : Hid (NS w (w1.alloc (.map #[] 0)) w.heap.size w1.heap.size ncol 0) := NS.start rfl hown hgrow
        clear hown hgrow hi9 h90 h91 h92 hmk
        obtain ⟨O, hO⟩ : ∃ O, O = w.heap.size := ⟨_, rfl⟩
        rw [← hO] at H0 ⊢
        have HO : Hid (O = w.heap.size) := hO
        obtain ⟨MP, hMP⟩ : ∃ MP, MP = w1.heap.size := ⟨_, rfl⟩
        rw [← hMP] at H0 ⊢
        clear hO hMP
        go_loopw [21] (fun i wr => ∃ c : Nat, c ≤ ncol ∧ i = .int .i64 (c : Int) ∧ NS w wr O MP ncol c) (fun i _ => ncol - (intOf i).toNat)
        case atStart => exact ⟨0, Nat.zero_le _, rfl, H0.out⟩
        case round =>
          clear H0
          obtain ⟨c, hcn, rfl, hNS⟩ := hrel
          have HNS : Hid (NS w wr O MP ncol c) := hNS
          clear hNS
          by_cases hlt : c < ncol
          · have hlti : (c : Int) < (ncol : Int) := by omega
            have hc6 : (c : Int) < 6 := by omega
            have hrune := rune_str c (by omega)
            obtain ⟨⟨v, kv⟩, kf⟩ := HNS.out.look hlt
            obtain ⟨n1, n2, n3⟩ := HNS.out.name hlt
            have N1 : Hid _ := n1
            have N2 : Hid _ := n2
            have N3 : Hid _ := n3
            clear n1 n2 n3
            go_wp2_with (at_mapUpdate; refine wpList_mapUpdate_own _ rfl _ _ _ 30 rfl 9 3 law Ybaf.underlying30 _ MP c _ rfl N3.out (by unfold maxLen; omega) _ _ _ rfl rfl (key_name c) _ [] (plainElem_int Ybaf.underlying3 (WalkArith.wf_i64 (by omega))) ?_; intro w2 hown2 hgrow2)
            have R1 : Hid (NS w w2 O MP ncol (c + 1)) := NS.next HNS.out.ord N1.out N2.out hown2 hgrow2
            clear hown2 hgrow2
            go_wp2_with fail
            go_roundw
            case rel => exact ⟨c + 1, by omega, by go_num, R1.out⟩
            case measure => simp [intOf]; omega
          · obtain rfl : c = ncol := by omega
            have HB2 : Hid (NS w wr O MP c c) := HNS.out
            obtain ⟨HD, hHD⟩ : ∃ HD, HD = wr.heap.size := ⟨_, rfl⟩
            obtain ⟨i3, hi3, h30, h31, h32⟩ := info_parts Ybaf.info3
            obtain ⟨i4, hi4, h40, h41, h42⟩ := info_parts Ybaf.info4
            have HHD : Hid (HD = wr.heap.size) := hHD
            clear hHD HNS
            go_upto_region 19 with (at_make; refine wpList_make_full _ rfl _ _ 34 rfl (HD + 1) 3 i3 (.int .i64 0) 1 Ybaf.underlying34 hi3 h30 h31 .i64 .i64 _ _ nrow rfl rfl rfl rfl (by rw [h32]; omega) (by unfold maxLen; omega) (by rw [HHD.out]; simp) ?_; intro w4 t4 g4)
            rw [size_alloc1, ← HHD.out] at t4
            rw [← HHD.out]
            obtain ⟨EN, hEN⟩ : ∃ EN, EN = w4.heap.size := ⟨_, rfl⟩
            have HEN : Hid (EN = w4.heap.size) := hEN
            have T4 : Hid (w4.ownsRow (HD + 1) 3 1 (.slice (some ⟨HD + 1, 0, none⟩) nrow nrow) nrow (madeCells (Value.int .i64 0).cells (nrow * 1)).toList) := t4
            have G4 : Hid ((wr.alloc (.cells #[.int .i64 a6, .slice (some ⟨O, 0, none⟩) c c, .map (some MP)] 33)).grownBy w4 none) := g4
            clear t4 g4 hEN
            go_upto_region 20 with (at_make; refine wpList_make_own _ rfl _ _ 34 rfl EN 3 i3 (.int .i64 0) 1 Ybaf.underlying34 hi3 h30 h31 .i64 .i64 _ N rfl rfl rfl (by rw [h32]; omega) (by unfold maxLen; omega) (by rw [HEN.out]; exact Nat.le_refl _) ?_; intro w5 t5 g5)
            rw [← HEN.out] at t5
            rw [← HEN.out]
            obtain ⟨RD, hRD⟩ : ∃ RD, RD = w5.heap.size := ⟨_, rfl⟩
            have HRD : Hid (RD = w5.heap.size) := hRD
            have T5 : Hid (w5.ownsRow EN 3 1 (.slice (some ⟨EN, 0, none⟩) 0 N) 0 []) := t5
            have G5 : Hid (w4.grownBy w5 none) := g5
            clear t5 g5 hRD
            go_upto_region 21 with (at_make; refine wpList_make_full _ rfl _ _ 35 rfl RD 4 i4 (.bool false) 1 Ybaf.underlying35 hi4 h40 h41 .i64 .i64 _ _ N rfl rfl rfl rfl (by rw [h42]; omega) (by unfold maxLen; omega) (by rw [HRD.out]; exact Nat.le_refl _) ?_; intro w6 t6 g6)
            rw [← HRD.out] at t6
            rw [← HRD.out]
            obtain ⟨BF, hBF⟩ : ∃ BF, BF = w6.heap.size := ⟨_, rfl⟩
            have HBF : Hid (BF = w6.heap.size) := hBF
            have T6 : Hid (w6.ownsRow RD 4 1 (.slice (some ⟨RD, 0, none⟩) N N) N (madeCells (Value.bool false).cells (N * 1)).toList) := t6
            have G6 : Hid (w5.grownBy w6 none) := g6
            clear t6 g6 hBF
            go_upto_region 22 with (at_make; refine wpList_make_full _ rfl _ _ 35 rfl BF 4 i4 (.bool false) 1 Ybaf.underlying35 hi4 h40 h41 .i64 .i64 _ _ N rfl rfl rfl rfl (by rw [h42]; omega) (by unfold maxLen; omega) (by rw [HBF.out]; exact Nat.le_refl _) ?_; intro w7 t7 g7)
            rw [← HBF.out] at t7
            rw [← HBF.out]
            have H7 : Hid (∀ S us, LS w w7 O MP HD (HD + 1) EN RD BF c nrow N a6 S us 0 0 (.slice none 0 0)) := fun S us => LS.start HB2.out HHD.out rfl HEN.out HRD.out HBF.out T4.out G4.out T5.out G5.out T6.out G6.out t7 g7
            clear t7 g7 T4 G4 T5 G5 T6 G6 HHD HEN HRD HBF HB2 hi3 h30 h31 h32 hi4 h40 h41 h42
            obtain ⟨S, hSd⟩ : ∃ S : Nat → ByteArray, S = cellS ss len := ⟨_, rfl⟩
            have HSd : Hid (S = cellS ss len) := hSd
            have HSZ2 : Hid (∀ j, j < N → (S j).size ≤ 4096) := by rw [hSd]; exact cellS_size HSZ.out
            clear hSd HSZ
            go_wp2_with fail
            have hcN : nrow * c = N := by exact_mod_cast hN
            have HcN : Hid (nrow * c = N) := hcN
            clear hcN
            obtain ⟨us, hus⟩ : ∃ us : Nat → Bool, us = fun j => (bits BinOp.and IntKind.u32 (a5 / 2 ^ j) 1 == 1) := ⟨_, rfl⟩
            have HUS : Hid (us = fun j => (bits BinOp.and IntKind.u32 (a5 / 2 ^ j) 1 == 1)) := hus
            clear hus
            go_loopg [28, 23, 25] nrow (fun gg i tv ev wr => ∃ r p : Nat, r ≤ nrow ∧ gg = nrow - r ∧ p = r * c ∧ i = .int .i64 (r : Int) ∧ ev = .slice (some ⟨EN, 0, none⟩) p N ∧ LS w wr O MP HD (HD + 1) EN RD BF c nrow N a6 S us p r tv)
            case atStart => exact ⟨0, 0, Nat.zero_le _, rfl, by simp, rfl, rfl, H7.out _ _⟩
            case round =>
              clear H7
              obtain ⟨r, p, hr, rfl, hp, rfl, rfl, hLS⟩ := hrel
              have HP : Hid (p = r * c) := hp
              by_cases hlt : r < nrow
              · obtain ⟨ta, tc, htv⟩ := own_slice hLS.tx
                subst htv
                obtain ⟨⟨v, kv⟩, kf⟩ := hLS.stLook hlt
                have HL1 : Hid (LS w _ O MP HD (HD + 1) EN RD BF c nrow N a6 S us p (r + 1) _) := hLS.stSet hlt hp
                have hpN : p + c ≤ N := by
                  rw [hp, ← HcN.out, ← Nat.succ_mul]; exact Nat.mul_le_mul_right _ hlt
                have hri : (r : Int) < (nrow : Int) := by omega
                have hrc : (r : Int) * (c : Int) = (p : Int) := by rw [hp]; simp
                obtain ⟨P0, hP0⟩ : ∃ P0, P0 = pos S p := ⟨_, rfl⟩
                rw [← hP0] at HL1 ⊢
                clear hLS hp hP0
                go_wp2_with fail
                obtain ⟨i5, hi5, h50, h51, h52⟩ := info_parts Ybaf.info5
                obtain ⟨i3, hi3, h30, h31, h32⟩ := info_parts Ybaf.info3
                go_loopg [29, 23, 25] c (fun gg i tv ev wx => ∃ q : Nat, q ≤ c ∧ gg = c - q ∧ i = .int .i64 (q : Int) ∧ ev = .slice (some ⟨EN, 0, none⟩) (p + q) N ∧ LS w wx O MP HD (HD + 1) EN RD BF c nrow N a6 S us (p + q) (r + 1) tv)
                case atStart => exact ⟨0, Nat.zero_le _, rfl, rfl, rfl, HL1.out⟩
                case round =>
                  clear HL1 kv kf
                  obtain ⟨q, hq, rfl, rfl, rfl, hLS⟩ := hrel
                  by_cases hqc : q < c
                  · obtain ⟨m, hm⟩ : ∃ m, m = p + q := ⟨_, rfl⟩
                    rw [← hm] at hLS ⊢
                    have HM : Hid (m = p + q) := hm
                    have hmi : (p : Int) + (q : Int) = (m : Int) := by omega
                    have hmN : m < N := by omega
                    have hqi : (q : Int) < (c : Int) := by omega
                    have HLS : Hid (LS w wr O MP HD (HD + 1) EN RD BF c nrow N a6 S us m (r + 1) u23) := hLS
                    clear hLS hm
                    go_upto_if 136 with fail
                    go_cut [31] (fun v wx => v = .string (S m) ∧ wr = wx)
                    case first =>
                      have hSm : S m = cellS ss len m := by rw [HSd.out]
                      by_cases hml : m < len
                      · obtain ⟨b, off, rfl, hc⟩ := HS.out.at (by rw [← HO.out]; exact HLS.out.low) hml
                        have hmli : (m : Int) < (len : Int) := by omega
                        rw [show ss.getD m ByteArray.empty = S m from by rw [hSm]; unfold cellS; rw [if_pos hml]] at hc
                        clear hSm
                        go_wp2_with fail
                        go_meet
                        case rel => exact ⟨rfl, rfl⟩
                      · have hmli : decide ((m : Int) < (len : Int)) = false := by simp; omega
                        have hE0 : S m = ⟨#[]⟩ := by rw [hSm]; unfold cellS; rw [if_neg hml]
                        have hE : Hid (S m = ⟨#[]⟩) := hE0
                        clear hE0
                        clear hSm
                        go_wp2_with fail
                        go_meet
                        case rel => exact ⟨by rw [hE.out], rfl⟩
                    case rest =>
                      obtain ⟨rfl, rfl⟩ := hcut
                      have hsz := HSZ2.out m hmN
                      have hps : pos S m ≤ 98328 := by
                        have := pos_le' S HSZ2.out m (by omega)
                        omega
                      obtain ⟨s, hs⟩ : ∃ s, s = S m := ⟨_, rfl⟩
                      obtain ⟨P, hP⟩ : ∃ P, P = pos S m := ⟨_, rfl⟩
                      have Hs : Hid (s = S m) := hs
                      have HPp : Hid (P = pos S m) := hP
                      rw [← hs] at hsz ⊢
                      rw [← hP] at hps
                      clear hs hP
                      have hB1 : BF + 1 ≤ wr.heap.size := HLS.out.ord.2.2.2.2.2.2
                      go_upto_region 34 with (at_builtin; refine Lib.wpList_append_own_string _ rfl (.tmp 141) (.tmp 142) 22 9 rfl (BF + 1) 5 i5 Ybaf.underlying22 Ybaf.underlying9 hi5 h50 h51 h52 _ (pos S m) _ rfl HLS.out.tx s rfl (by unfold maxLen; have := HPp.out; omega) (by have := HPp.out; omega) hB1 ?_; intro tv1 w1 t1 g1 _)
                      obtain ⟨ta1, tc1, htv1⟩ := own_slice t1
                      have T1 : Hid (w1.ownsRow (BF + 1) 5 1 tv1 (pos S m + (S m).size) ((txt S m).map (Value.int .u8) ++ Lib.strCells (S m))) := by rw [← Hs.out]; exact t1
                      have G1 : Hid (wr.grownBy w1 u23.ownBlock) := g1
                      have hB2 : BF + 1 ≤ w1.heap.size := Nat.le_trans hB1 g1.size
                      clear t1 g1
                      subst htv1
                      obtain ⟨E, hE⟩ : ∃ E, E = pos S m + s.size := ⟨_, rfl⟩
                      rw [← hE]
                      have HE : Hid (E = pos S m + s.size) := hE
                      have hE2 : E ≤ 102424 := by have := HPp.out; omega
                      clear hE
                      go_upto_region 35 with (at_builtin; refine wpList_append_fits _ rfl (.tmp 144) (.tmp 147) 34 rfl EN 3 i3 1 Ybaf.underlying34 hi3 h31 EN m N (endsV S m) rfl (LS.en1 HLS.out G1.out) ⟨w1.heap.size, 0, none⟩ 1 1 [.int .i64 (E : Int)] rfl rfl (new_cell rfl _ _) (by simp [Value.oneCell']) (by omega) ?_; intro w2 t2 g2)
                      have T2 : Hid (w2.ownsRow EN 3 1 (.slice (some ⟨EN, 0, none⟩) (m + 1) N) (m + 1) (endsV S m ++ [.int .i64 ((pos S m + (S m).size : Nat) : Int)])) := by rw [← Hs.out, ← HE.out]; exact t2
                      have G2 : Hid ((w1.alloc (.cells #[.int .i64 (E : Int)] 3)).grownBy w2 (some EN)) := g2
                      have hB3 : BF + 1 ≤ w2.heap.size := Nat.le_trans hB2 (Nat.le_trans (by simp) g2.size)
                      clear t2 g2
                      go_upto_region 36 with (at_builtin; refine wpList_append_own _ rfl (.tmp 149) (.tmp 150) 22 rfl (BF + 1) 5 i5 (.int .u8 0) 1 1 Ybaf.underlying22 hi5 h50 h51 h52 rfl (by decide) _ (pos S m + (S m).size) _ rfl (by have h := HLS.out.tx2 (o2 := .cells #[.int .u8 44] 5) T1.out G2.out; rw [← Hs.out, ← HE.out] at h; rw [← Hs.out, ← HE.out]; exact h) ⟨w2.heap.size, 0, none⟩ 1 1 [.int .u8 44] rfl rfl (new_cell rfl _ _) (by simp [Value.oneCell']) (by rw [← Hs.out, ← HE.out]; unfold maxLen; omega) (by rw [← Hs.out, ← HE.out]; omega) (by simp; omega) ?_; intro tv3 w3 t3 g3 _)
                      have T3 : Hid (w3.ownsRow (BF + 1) 5 1 tv3 (pos S m + (S m).size + 1) ((txt S m).map (Value.int .u8) ++ Lib.strCells (S m) ++ [.int .u8 44])) := by rw [← Hs.out]; rw [← Hs.out] at t3; exact t3
                      have G3 : Hid ((w2.alloc (.cells #[.int .u8 44] 5)).grownBy w3 (Value.slice ta1 E tc1).ownBlock) := g3
                      clear t3 g3
                      have HST := LS.step HLS.out hmN T1.out G1.out T2.out G2.out T3.out (by have h := G3.out; rw [HE.out, Hs.out] at h; rw [Hs.out] ; exact h)
                      obtain ⟨⟨v1, y1⟩, f1, ⟨v2, y2⟩, f2, y3, hL4⟩ := HST
                      have HL4 : Hid (LS w _ O MP HD (HD + 1) EN RD BF c nrow N a6 S us (m + 1) (r + 1) tv3) := hL4
                      clear hL4 T1 T2 T3 G1 G2 G3 HLS
                      have hmNi : (m : Int) < (N : Int) := by omega
                      have hub : (bits BinOp.and IntKind.u32 (a5 / 2 ^ m) 1 == 1) = us m := by rw [HUS.out]
                      obtain ⟨ub, hub2⟩ : ∃ ub, ub = us m := ⟨_, rfl⟩
                      rw [← hub2] at hub y2 y3 f2 HL4
                      clear hub2
                      go_wp2_with fail
                      go_roundg (c - (q + 1))
                      case measure => omega
                      case rel => exact ⟨q + 1, by omega, rfl, by go_num, by rw [show p + (q + 1) = m + 1 from by have := HM.out; omega], by rw [show p + (q + 1) = m + 1 from by have := HM.out; omega]; exact HL4.out⟩
                  · obtain rfl : q = c := by omega
                    go_wp2_with fail
                    go_roundg (nrow - (r + 1))
                    case measure => omega
                    case rel => exact ⟨r + 1, p + q, by omega, rfl, by rw [HP.out, Nat.succ_mul], by go_num, rfl, hLS⟩
              · obtain rfl : r = nrow := by omega
                obtain rfl : p = N := by rw [HP.out]; exact HcN.out
                have HLS : Hid (LS w wr O MP HD (HD + 1) EN RD BF c r p a6 S us p r u23) := hLS
                clear hLS hp
                have hpp : 1 ≤ p := by rw [HP.out]; exact Nat.mul_le_mul hnr1 hnc1
                have hps : 0 < pos S p := by have := pos_mono S (show 0 < p by omega); omega
                have hconv := HLS.out.str hps
                obtain ⟨tx, htx⟩ : ∃ tx, tx = strOfNums (txt S p) := ⟨_, rfl⟩
                rw [← htx] at hconv
                have HTX : Hid (tx = strOfNums (txt S p)) := htx
                obtain ⟨sel, hsel⟩ : ∃ sel : Nat, a3 % ((c : Int) + 1) = (sel : Int) := ⟨(a3 % ((c : Int) + 1)).toNat, by have := Int.emod_nonneg a3 (show ((c : Int) + 1) ≠ 0 by omega); omega⟩
                have hsel2 : (sel : Int) < (c : Int) + 1 := by rw [← hsel]; exact Int.emod_lt_of_pos _ (by omega)
                clear htx hps
                have hsel0 : Hid (a3 % ((c : Int) + 1) = (sel : Int)) := hsel
                go_upto_region 41 with fail
                rw [hsel0.out]
                have HCA : Hid _ := call_of (o := .cells #[.int .i64 a6, .pointer (some ⟨wr.heap.size, 0, none⟩), .int .i64 (idx : Int)] 41) HLS.out HTX.out
                obtain ⟨BK, hBK⟩ : ∃ BK, BK = wr.heap.size := ⟨_, rfl⟩
                rw [← hBK] at HCA ⊢
                obtain ⟨w8, hw8⟩ : ∃ w8, w8 = (wr.alloc (.cells #[.pointer (some ⟨HD, 0, none⟩), .string tx, .slice none 0 0, .slice (some ⟨HD + 1, 0, none⟩) r r, .slice (some ⟨EN, 0, none⟩) p p, .slice (some ⟨RD, 0, none⟩) p p] 39)).alloc (.cells #[.int .i64 a6, .pointer (some ⟨BK, 0, none⟩), .int .i64 (idx : Int)] 41) := ⟨_, rfl⟩
                have hrow : Blk w8 (BK + 1) [.int .i64 a6, .pointer (some ⟨BK, 0, none⟩), .int .i64 (idx : Int)] 41 := by
                  rw [hw8]
                  have h := Blk.new (wr.alloc (.cells #[.pointer (some ⟨HD, 0, none⟩), .string tx, .slice none 0 0, .slice (some ⟨HD + 1, 0, none⟩) r r, .slice (some ⟨EN, 0, none⟩) p p, .slice (some ⟨RD, 0, none⟩) p p] 39)) [.int .i64 a6, .pointer (some ⟨BK, 0, none⟩), .int .i64 (idx : Int)] 41
                  rwa [size_alloc1, ← hBK] at h
                rw [← hw8] at HCA ⊢
                have HC : Hid (Call w w8 O MP HD EN RD BF BK c r p a6 S us u23) := HCA.out
                have rw0 := hrow.cell 0
                have rw1 := hrow.cell 1
                have rw2 := hrow.cell 2
                simp only [List.getElem?_cons_zero, List.getElem?_cons_succ] at rw0 rw1 rw2
                clear HCA hw8 hrow hconv hsel hBK HLS HTX
                by_cases hsc : sel < c
                · have hsci : (sel : Int) < (c : Int) := by omega
                  have hnm : w8.cell? ⟨O, sel, none⟩ = some (.string (nameB sel)) := by
                    obtain ⟨nc, n1, _, n3⟩ := HC.out.ls.nm
                    rw [n1.cell]; exact n3 sel hsc
                  obtain ⟨nb, hnb⟩ : ∃ nb, nb = nameB sel := ⟨_, rfl⟩
                  rw [← hnb] at hnm
                  have HNB : Hid (nb = nameB sel) := hnb
                  clear hnb
                  have hii : idx < r := by
                    have := Int.emod_lt_of_pos a2 (show (0 : Int) < (r : Int) by omega)
                    rw [hid0.out] at this
                    omega
                  obtain ⟨kk, hkk⟩ : ∃ kk, kk = idx * c + sel := ⟨_, rfl⟩
                  have hkp : kk < p := by
                    have h1 : (idx + 1) * c ≤ r * c := Nat.mul_le_mul_right _ hii
                    rw [Nat.succ_mul, HcN.out] at h1
                    omega
                  obtain ⟨pp, hpp1⟩ : ∃ pp : Nat, (idx : Int) * (c : Int) = (pp : Int) := ⟨idx * c, by simp⟩
                  have hpp2 : (pp : Int) + (sel : Int) = (kk : Int) := by rw [← hpp1, hkk]; simp
                  have hpp3 : pp ≤ 24 := by
                    have h1 : idx * c = pp := by exact_mod_cast hpp1
                    omega
                  obtain ⟨rc, r1, r2, r3⟩ := HC.out.ls.rd
                  have HKK : Hid (kk = idx * c + sel) := hkk
                  have HR2 : Hid (rc.length = p) := r2
                  have HR3 : Hid (∀ j, j < p → rc[j]? = some (.bool (us j))) := r3
                  clear r2 r3 hkk
                  have hse : ((sel : Int) == (c : Int)) = false := by rw [beq_eq_false_iff_ne]; omega
                  have hkpi : (kk : Int) < (p : Int) := by omega
                  go_wp2_with fail
                  refine (text_present F BK HD O (HD + 1) EN RD MP c r p p idx sel kk a6 _ nb (S kk) rc w8 (by rw [HC.out.ls.low.tape]; exact hF) HC.out.bk HC.out.ls.mp.lt r1 HR2.out HKK.out hkp (by omega) hnc6 (by omega) (fun W hW => look_any (map_same HC.out.ls.mp hW) (by rw [HNB.out]; exact name_size sel) (by rw [HNB.out]; exact (has_name c sel hnc6 hsc).1) (by rw [HNB.out]; exact (has_name c sel hnc6 hsc).2)) (fun W hW => by rw [HKK.out]; exact HC.out.cell hii hsc hnc6 hnr4 HcN.out HSZ2.out hN24 W hW)).mono ?_
                  rintro e w9 ⟨⟨o1, o2⟩, hg9, hr9⟩
                  obtain ⟨⟨v1, y1⟩, f1, ⟨us', m1, m2⟩, lw, htp⟩ := HC.out.after hkp HR2.out HR3.out hg9 hr9 HO.out
                  have HM1 : Hid _ := m1
                  have HM2 : Hid _ := m2
                  have HLW : Hid _ := lw
                  have HSk : Hid (S kk = cellS ss len kk) := by show S kk = _; rw [HSd.out]
                  have HLo : Hid (Below w.heap.size w w9) := ⟨lw.os, lw.tape, lw.output, by have h := lw.size; simpa [World.setCell] using h, fun j hj => by have h := lw.block j hj; rwa [Below.heap_setCell _ _ _ _ (by have := HC.out.ls.ord; have := HO.out; simp; omega)] at h⟩
                  obtain ⟨s, hs⟩ : ∃ s, s = S kk := ⟨_, rfl⟩
                  rw [← hs] at o1 o2 HSk
                  clear m1 m2 lw hg9 hr9 htp r1 hs hnm rw0 rw1 rw2
                  by_cases hsz0 : s.size = 0
                  · obtain ⟨a, rfl⟩ := o1 hsz0
                    have hs0 : s = ⟨#[]⟩ := by
                      cases s with
                      | mk d =>
                        have : d = #[] := Array.eq_empty_of_size_eq_zero hsz0
                        rw [this]
                    subst hs0
                    clear o1 o2 hsz0
                    go_upto_if 220 with fail
                    go_cut [39] (fun v wx => v = .string ⟨#[]⟩ ∧ w9 = wx)
                    case first =>
                      by_cases hkl : kk < len
                      · obtain ⟨b, off, rfl, hc⟩ := HS.out.at HLo.out hkl
                        have hkli : (kk : Int) < (len : Int) := by omega
                        rw [show ss.getD kk ByteArray.empty = ⟨#[]⟩ from by rw [HSk.out]; unfold cellS; rw [if_pos hkl]] at hc
                        go_wp2_with fail
                        go_meet
                        case rel => exact ⟨rfl, rfl⟩
                      · have hkli : decide ((kk : Int) < (len : Int)) = false := by simp; omega
                        go_wp2_with fail
                        go_meet
                        case rel => exact ⟨rfl, rfl⟩
                    case rest =>
                      obtain ⟨rfl, rfl⟩ := hcut
                      go_wp2_with fail
                      refine (ceq_calls RD BF p us' _ HM1.out HM2.out hN24).mono ?_
                      rintro e w10 ⟨rfl, hb10⟩
                      have HLX : Hid (Below w.heap.size w w10) := HLW.out.trans (hb10.mono HLW.out.size)
                      clear hb10
                      go_wp2_with fail
                      go_ret
                      exact ⟨rfl, HLX.out⟩
                  · obtain rfl := o2 hsz0
                    have hne := bytes_ne hsz0
                    clear o1 o2 hsz0
                    go_upto_if 220 with fail
                    go_cut [39] (fun v wx => v = .string s ∧ w9 = wx)
                    case first =>
                      by_cases hkl : kk < len
                      · obtain ⟨b, off, rfl, hc⟩ := HS.out.at HLo.out hkl
                        have hkli : (kk : Int) < (len : Int) := by omega
                        rw [show ss.getD kk ByteArray.empty = s from by rw [HSk.out]; unfold cellS; rw [if_pos hkl]] at hc
                        go_wp2_with fail
                        go_meet
                        case rel => exact ⟨rfl, rfl⟩
                      · have hkli : decide ((kk : Int) < (len : Int)) = false := by simp; omega
                        have hE0 : s = ⟨#[]⟩ := by rw [HSk.out]; unfold cellS; rw [if_neg hkl]
                        have hE : Hid (s = ⟨#[]⟩) := hE0
                        clear hE0
                        go_wp2_with fail
                        go_meet
                        case rel => exact ⟨by rw [hE.out], rfl⟩
                    case rest =>
                      obtain ⟨rfl, rfl⟩ := hcut
                      go_wp2_with fail
                      refine (ceq_calls RD BF p us' _ HM1.out HM2.out hN24).mono ?_
                      rintro e w10 ⟨rfl, hb10⟩
                      have HLX : Hid (Below w.heap.size w w10) := HLW.out.trans (hb10.mono HLW.out.size)
                      clear hb10
                      go_wp2_with fail
                      go_ret
                      exact ⟨by simp, HLX.out⟩
                · have hsci : decide ((sel : Int) < (c : Int)) = false := by simp; omega
                  have hse : sel = c := by omega
                  have hsei : ((sel : Int) == (c : Int)) = true := by rw [beq_iff_eq]; omega
                  go_wp2_with fail
                  refine (text_absent F BK HD O (HD + 1) EN RD MP c r p p idx a6 _ nope w8 (by rw [HC.out.ls.low.tape]; exact hF) HC.out.bk HC.out.ls.mp.lt (fun W hW => look_any (map_same HC.out.ls.mp hW) (by show 4 ≤ maxLen; unfold maxLen; omega) (has_nope c hnc6).1 (has_nope c hnc6).2)).mono ?_
                  rintro e w9 ⟨⟨a, rfl⟩, hb9⟩
                  obtain ⟨m1, m2⟩ := HC.out.marks hb9
                  have HM1 : Hid (∀ j, j < p → w9.cell? ⟨RD, j, none⟩ = some (.bool (us j))) := m1
                  have HM2 : Hid (∀ j, j < p → w9.cell? ⟨BF, j, none⟩ = some (.bool (us j))) := m2
                  have HLW : Hid (Below w.heap.size w w9) := HC.out.low HO.out hb9
                  clear m1 m2 hb9 rw0 rw1 rw2
                  go_wp2_with fail
                  refine (ceq_calls RD BF p us _ HM1.out HM2.out hN24).mono ?_
                  rintro e w10 ⟨rfl, hb10⟩
                  have HLX : Hid (Below w.heap.size w w10) := HLW.out.trans (hb10.mono HLW.out.size)
                  clear hb10
                  go_wp2_with fail
                  go_ret
                  exact ⟨rfl, HLX.out⟩
end Go.Proofs.YbulkcgzuFmt
