import Derived.Test.YbulkchdoPrep
/-! The walk of 'LawS4161BLinks' (function 3). -/
namespace Go.Proofs.Ybulkchdo
open Go.RowKit
set_option maxRecDepth 100000 in
set_option maxHeartbeats 1000000 in
theorem links (a0 a1 : ByteArray) (a2 a3 : Int) (a4 : Option Addr) (n c4 : Nat) (z4 : List Int) (a5 : Option Addr) (m c5 : Nat) (z5 : List Int) (w : World) (h4 : n ≤ 1024) (h5 : m ≤ 1024) (hC4 : Came w a4 n z4) (hC5 : Came w a5 m z5) :
    Calls Yba.prog 3 #[.string a0, .string a1, .int .u8 a2, .int .i64 a3, .slice a4 n c4, .slice a5 m c5] w fun e w' => e = .returned (.bool true) ∧ Below w.heap.size w w' := by
  have t1 : decide ((1024 : Int) < (n : Int)) = false := by simp; omega
  have t2 : decide ((1024 : Int) < (m : Int)) = false := by simp; omega
  obtain ⟨i0, hi, hz0, hz1, hz2⟩ := info_parts Yba.info29
  have HC4 : Hid (Came w a4 n z4) := hC4
  have HC5 : Hid (Came w a5 m z5) := hC5
  clear hC4 hC5
  go_enter Yba.func3, Yba.ntmps3
  go_wp2_with (at_make; refine wpList_make_full _ rfl _ _ 26 rfl (w.heap.size + 1) 29 i0 (.pointer none) 1 Yba.underlying26 hi hz0 hz1 .i64 .i64 _ _ n rfl rfl rfl rfl (by rw [hz2]; omega) (by unfold maxLen; omega) (by simp) ?_; intro w1 hown hgrow)
  have H0 : Hid (L1 w w1 w.heap.size w1.heap.size n 0 z4) := L1.start rfl _ rfl hown hgrow
  clear hown hgrow t1 t2
  obtain ⟨O, hO⟩ : ∃ O, O = w.heap.size := ⟨_, rfl⟩
  rw [← hO] at H0 ⊢
  have HO : Hid (O = w.heap.size) := hO
  obtain ⟨Q, hQ⟩ : ∃ Q, Q = w1.heap.size := ⟨_, rfl⟩
  rw [← hQ] at H0
  clear hQ hO
  go_loopw [43] (fun i wr => ∃ k : Nat, k ≤ n ∧ i = .int .i64 (k : Int) ∧ L1 w wr O Q n k z4) (fun i _ => n - (intOf i).toNat)
  case atStart => exact ⟨0, Nat.zero_le _, rfl, H0.out⟩
  case round =>
    obtain ⟨k, hkn, rfl, hL⟩ := hrel
    have HL : Hid (L1 w wr O Q n k z4) := hL
    clear hL
    by_cases hlt : k < n
    · obtain ⟨b, off, rfl, hcell⟩ := HC4.out.at (by rw [← HO.out]; exact HL.out.low) hlt
      have hlti : (k : Int) < (n : Int) := by omega
      have hsz : wr.heap.size = Q + k := HL.out.size
      have hlk := fun o => HL.out.look hlt o
      obtain ⟨z, hz⟩ : ∃ z, z = z4.getD k 0 := ⟨_, rfl⟩
      rw [← hz] at hcell
      have HZ : Hid (z = z4.getD k 0) := hz
      obtain ⟨⟨v, kv⟩, kf⟩ := hlk (.cells #[.int .u8 z, .string ⟨#[109]⟩, .int .u8 0, .slice none 0 0, .pointer (some ⟨O, 0, none⟩)] 33)
      clear hlk hz
      go_wp2_with fail
      go_roundw
      case rel =>
        refine ⟨k + 1, by omega, by go_num, ?_⟩
        have h := HL.out.step hlt
        rwa [show mt O z4 k = [.int .u8 z, .string ⟨#[109]⟩, .int .u8 0, .slice none 0 0, .pointer (some ⟨O, 0, none⟩)] from by rw [HZ.out]] at h
      case measure => simp [intOf]; omega
    · obtain rfl : k = n := by omega
      have hsz : wr.heap.size = Q + k := HL.out.size
      obtain ⟨i4, hi4, hz40, hz41, hz42⟩ := info_parts Yba.info4
      go_upto_if 61 with (at_make; refine wpList_make_full _ rfl _ _ 34 rfl (Q + k) 4 i4 (.bool false) 1 Yba.underlying34 hi4 hz40 hz41 .i64 .i64 _ _ k rfl rfl rfl rfl (by rw [hz42]; omega) (by unfold maxLen; omega) (by omega) ?_; intro w2 hown hgrow)
      have HP : Hid (Pl w w2 O Q k z4 []) := Pl.start HL.out hown hgrow
      clear hown hgrow hi4 hz40 hz41 hz42 HL H0
      go_cut [18] (fun v wx => ∃ ms : List Nat, ms.length ≤ 1024 ∧ Pl w wx O Q k z4 ms ∧ wx.ownsRow (Q + k + 1) 29 1 v ms.length (ptrs Q ms))
      case first =>
        by_cases hk0 : k = 0
        · subst hk0
          go_wp2_with fail
          go_meet
          case rel => exact ⟨[], by simp, HP.out, World.ownsRow_nil _ _ _ _⟩
        · have hk0' : (0 : Int) < (k : Int) := by omega
          have hsz2 : Q + k + 1 ≤ w2.heap.size := HP.out.size
          go_wp2_with (at_make; refine wpList_make_own _ rfl _ _ 26 rfl (Q + k + 1) 29 i0 (.pointer none) 1 Yba.underlying26 hi hz0 hz1 .i64 .i64 _ m rfl rfl rfl (by rw [hz2]; omega) (by unfold maxLen; omega) hsz2 ?_; intro w3 hown hgrow)
          have HP3 : Hid (Pl w w3 O Q k z4 []) := HP.out.grown hgrow (by simp)
          obtain ⟨G, hG⟩ : ∃ G, G = w2.heap.size := ⟨_, rfl⟩
          rw [← hG] at hown ⊢
          have HO3 : Hid (w3.ownsRow (Q + k + 1) 29 1 (.slice (some ⟨G, 0, none⟩) 0 m) 0 []) := hown
          have hG1 : Q + k + 1 ≤ G := by omega
          clear hown hgrow HP hG hsz2 hsz
          go_loopw [67, 18] (fun i v wr => ∃ ms : List Nat, ms.length ≤ m ∧ i = .int .i64 (ms.length : Int) ∧ v = .slice (some ⟨G, 0, none⟩) ms.length m ∧ Pl w wr O Q k z4 ms ∧ wr.ownsRow (Q + k + 1) 29 1 (.slice (some ⟨G, 0, none⟩) ms.length m) ms.length (ptrs Q ms)) (fun i _ _ => m - (intOf i).toNat)
          case atStart => exact ⟨[], Nat.zero_le _, rfl, rfl, HP3.out, HO3.out⟩
          case round =>
            obtain ⟨ms, hms, rfl, rfl, hPl, hOw⟩ := hrel
            obtain ⟨q, hq⟩ : ∃ q, q = ms.length := ⟨_, rfl⟩
            rw [← hq] at hms hOw ⊢
            have HQ : Hid (q = ms.length) := hq
            have HPl : Hid (Pl w wr O Q k z4 ms) := hPl
            have HOw : Hid (wr.ownsRow (Q + k + 1) 29 1 (.slice (some ⟨G, 0, none⟩) q m) q (ptrs Q ms)) := hOw
            clear hPl hOw hq HP3 HO3
            by_cases hlt : q < m
            · obtain ⟨b, off, rfl, hcell⟩ := HC5.out.at (by rw [← HO.out]; exact HPl.out.low) hlt
              obtain ⟨p0, p1⟩ := HC5.out.num hlt
              obtain ⟨p, hp⟩ : ∃ p : Nat, (p : Int) = z5.getD q 0 := ⟨(z5.getD q 0).toNat, Int.toNat_of_nonneg p0⟩
              rw [← hp] at hcell p0 p1
              clear hp
              have hlti : (q : Int) < (m : Int) := by omega
              obtain ⟨j, hj⟩ : ∃ j : Nat, (p : Int) % (k : Int) = (j : Int) := ⟨p % k, by simp⟩
              have hjk : (j : Int) < (k : Int) := by rw [← hj]; exact Int.emod_lt_of_pos _ hk0'
              have hjn : j < k := by omega
              obtain ⟨u1, u2⟩ := HPl.out.usedAt hjn
              have HM : Hid (Pl w (wr.setCell ⟨Q + k, j, none⟩ (.bool true)) O Q k z4 (ms ++ [j])) := HPl.out.mark hjn
              have u3 := HM.out.pool j hjn
              obtain ⟨ub, hub⟩ : ∃ ub, ub = decide (j ∈ ms) := ⟨_, rfl⟩
              rw [← hub] at u1
              clear hub
              have HOs : Hid (((wr.setCell ⟨Q + k, j, none⟩ (.bool true)).alloc (.cells #[.pointer (some ⟨Q + j, 0, none⟩)] 29)).ownsRow (Q + k + 1) 29 1 (.slice (some ⟨G, 0, none⟩) q m) q (ptrs Q ms)) := (own_set HOw.out (by simp) _).alloc _
              go_wp2_with (at_builtin; refine wpList_append_fits _ rfl (.tmp 79) (.tmp 84) 26 rfl (Q + k + 1) 29 i0 1 Yba.underlying26 hi hz1 G q m (ptrs Q ms) rfl HOs.out ⟨wr.heap.size, 0, none⟩ 1 1 [.pointer (some ⟨Q + j, 0, none⟩)] rfl rfl (new_cell wr _ _ _ _) (by simp [Value.oneCell']) (by omega) ?_; intro w4 hown4 hgrow4)
              have HP4 : Hid (Pl w w4 O Q k z4 (ms ++ [j])) := (HM.out.alloc _).grown hgrow4 (by simp; omega)
              go_roundw
              case rel => exact ⟨ms ++ [j], by simp; have := HQ.out; omega, by have := HQ.out; simp [this], by have := HQ.out; simp [this], HP4.out, by simpa [HQ.out] using hown4⟩
              case measure => simp [intOf]; omega
            · go_wp2_with fail
              go_meet
              case rel => exact ⟨ms, by have := HQ.out; omega, HPl.out, by rw [← HQ.out]; exact HOw.out⟩
      case rest =>
        obtain ⟨ms, hms, hPl, hOw⟩ := hcut
        obtain ⟨am, cm, rfl, hM⟩ := msgs_of hOw
        obtain ⟨w5, hw5⟩ : ∃ w5, w5 = wc := ⟨_, rfl⟩
        rw [← hw5] at hPl hM ⊢
        obtain ⟨L, hL⟩ : ∃ L, L = ms.length := ⟨_, rfl⟩
        rw [← hL] at hM hms ⊢
        have HPl : Hid (Pl w w5 O Q k z4 ms) := hPl
        have HM : Hid (Msgs w5 (Q + k + 1) am L Q ms) := hM
        clear hPl hM hOw hw5 hL wc HP
        go_wp2_with fail
        obtain ⟨S, hS⟩ : ∃ S, S = w5.heap.size := ⟨_, rfl⟩
        rw [← hS]
        have HS : Hid (S = w5.heap.size) := hS
        clear hS
        obtain ⟨w6, hw6⟩ : ∃ w6, w6 = ((w5.alloc (.cells #[.string ⟨#[104]⟩, .string ⟨#[]⟩, .string ⟨#[]⟩, .nilFunc, .map none, .nilFunc, .nilFunc] 41)).alloc (.cells #[.pointer (some ⟨S, 0, none⟩)] 35)).alloc (.cells #[.string a0, .string a1, .int .u8 a2, .int .i64 a3, .nilFunc, .slice (some ⟨S + 1, 0, none⟩) 1 1, .slice am L cm] 28) := ⟨_, rfl⟩
        rw [← hw6]
        have hg6 : w5.grownBy w6 none := by rw [hw6]; exact grown3 _ _ _ _
        have hs6 : w6.heap.size = S + 3 := by rw [hw6, HS.out]; simp
        have hh6 : w6.cell? ⟨S + 1, 0, none⟩ = some (.pointer (some ⟨S, 0, none⟩)) := by rw [hw6, show S + 1 = w5.heap.size + 1 from by rw [HS.out]]; exact hdr3 _ _ _ _
        clear hw6
        refine (newProtocol a0 a1 a2 a3 (.slice (some ⟨S + 1, 0, none⟩) 1 1) am L cm (ms.map (Q + ·)) w6 (by simpa using HM.out.len) hms (ask_msgs HM.out (fun j hj => by have := HPl.out.lt j hj; omega) (fun b o hb => World.cell?_of_block (w := w5) (a := ⟨b, o, none⟩) (hg6.block b hb (by simp)))) (ask_blk HPl.out (fun b hb => hg6.block b hb (by simp)))).mono ?_
        rintro e w7 ⟨rfl, hnp⟩
        have HF : Hid (Fin w w7 O Q k L S z4 ms am cm a0 a1 a2 a3) := fin_of HS.out HPl.out HM.out hg6 hs6 hh6 hnp
        rw [hs6]
        clear hnp hg6 hs6 hh6 HS HPl HM
        have b0 := HF.out.self.cell 0
        have b1 := HF.out.self.cell 1
        have b2 := HF.out.self.cell 2
        have b3 := HF.out.self.cell 3
        have b4 := HF.out.self.cell 4
        have b5 := HF.out.self.cell 5
        have b6 := HF.out.self.cell 6
        have bh := HF.out.hdr
        simp only [List.getElem?_cons_zero, List.getElem?_cons_succ] at b0 b1 b2 b3 b4 b5 b6
        have hnf := neq_nilFunc
        have e35 := neq35
        have e29 := neq29
        have e23 := neq23
        have hnn := fun W => eql_nil W 26 29 am L cm 0 0 Yba.underlying26
        go_wp2_with fail
        go_quiet (fail)
        go_wp2_with fail
        clear b0 b1 b2 b3 b4 b5 bh hnn hnf e35
        go_loopw [25] (fun i wr => ∃ q d : Nat, q ≤ L ∧ i = .int .i64 (q : Int) ∧ wr = w7.drewN d) (fun i _ => L - (intOf i).toNat)
        case atStart => exact ⟨0, _, Nat.zero_le _, rfl, rfl⟩
        case round =>
          obtain ⟨q, d, hq, rfl, rfl⟩ := hrel
          by_cases hlt : q < L
          · obtain ⟨g, rfl, _, hc⟩ := HF.out.msgs.cell q hlt
            obtain ⟨t, ht⟩ : ∃ t, t = Q + ms.getD q 0 := ⟨_, rfl⟩
            rw [← ht] at hc
            clear ht
            have hlti : (q : Int) < (L : Int) := by omega
            go_wp2
            go_quiet (fail)
            go_wp2
            go_roundw
            case rel => exact ⟨q + 1, _, by omega, by go_num, rfl⟩
            case measure => simp [intOf]; omega
          · go_wp2_with fail
            clear b6
            go_loopw [26] (fun i wr => ∃ q d : Nat, q ≤ k ∧ i = .int .i64 (q : Int) ∧ wr = w7.drewN d) (fun i _ => k - (intOf i).toNat)
            case atStart => exact ⟨0, _, Nat.zero_le _, rfl, rfl⟩
            case round =>
              clear hlt hq
              obtain ⟨q, d, hq, rfl, rfl⟩ := hrel
              by_cases hlt : q < k
              · obtain ⟨x0, x1, x4⟩ := HF.out.look hlt
                have xp := HF.out.pool q hlt
                have xu := HF.out.used q hlt
                obtain ⟨b, off, rfl, xc⟩ := HC4.out.at (by rw [← HO.out]; exact HF.out.low) hlt
                obtain ⟨zz, hzz⟩ : ∃ zz, zz = z4.getD q 0 := ⟨_, rfl⟩
                rw [← hzz] at x0 xc
                clear hzz
                have hlti : (q : Int) < (k : Int) := by omega
                by_cases hm : q ∈ ms
                · rw [if_pos hm] at x4
                  rw [decide_eq_true hm] at xu
                  go_wp2
                  go_quiet (fail)
                  go_wp2
                  go_roundw
                  case rel => exact ⟨q + 1, _, by omega, by go_num, rfl⟩
                  case measure => simp [intOf]; omega
                · rw [if_neg hm] at x4
                  rw [decide_eq_false hm] at xu
                  go_wp2
                  go_quiet (fail)
                  go_wp2
                  go_roundw
                  case rel => exact ⟨q + 1, _, by omega, by go_num, rfl⟩
                  case measure => simp [intOf]; omega
              · go_wp2_with fail
                go_ret
                exact ⟨rfl, by rw [← HO.out]; exact below_drewN HF.out.low _⟩
end Go.Proofs.Ybulkchdo
