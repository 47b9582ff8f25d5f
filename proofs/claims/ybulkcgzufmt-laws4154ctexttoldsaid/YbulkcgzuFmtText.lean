import Derived.Test.YbulkcgzuFmtCell
import Derived.Test.YbulkcgzuFmtErr
/-! The contract of Row.Text (10). -/
namespace Go.Proofs.YbulkcgzuFmt
open Go.RowKit Go.Extern.Stop Go.Stop Go.Extern

abbrev rowV (line : Int) (bk idx : Nat) : Array Value := #[.int .i64 line, .pointer (some ⟨bk, 0, none⟩), .int .i64 (idx : Int)]

theorem cells2 (w : World) (o : Obj) (x y : Value) : ((w.alloc o).alloc (.cells #[x, y] 20)).cell? ⟨w.heap.size + 1, 0, none⟩ = some x ∧ ((w.alloc o).alloc (.cells #[x, y] 20)).cell? ⟨w.heap.size + 1, 1, none⟩ = some y := by
  have h := Blk.new (w.alloc o) [x, y] 20
  rw [show (w.alloc o).heap.size = w.heap.size + 1 from by simp] at h
  exact ⟨h.cell 0, h.cell 1⟩

theorem below2 {w W w2 : World} (o1 o2 : Obj) (hW : W = (w.alloc o1).alloc o2) (h : Below W.heap.size W w2) : Below w.heap.size w w2 := by
  subst hW
  exact (((Below.refl _ _).alloc (Nat.le_refl _) _).alloc (by simp) _).trans (h.mono (by simp; omega))

/-- behind Text's store into the marks -/
structure Mid (w wx : World) (rd k line' : Nat) (rc : List Value) (row : List Value) : Prop where
  gr : Grew (· = rd) w wx
  box : Blk wx w.heap.size row 41
  rdc : Blk wx rd (rc.set k (.bool true)) 4
  lt : line' ≤ wx.heap.size

theorem Grew.blk {S : Nat → Prop} {w w' : World} {B : Nat} {cs : List Value} {t : TypeId} (h : Blk w B cs t) (hg : Grew S w w') (hB : ¬ S B) : Blk w' B cs t := (hg.block B h.lt hB).trans h

theorem Grew.below {S : Nat → Prop} {w w1 w2 : World} (h : Grew S w w1) (hb : Below w1.heap.size w1 w2) : Grew S w w2 :=
  ⟨hb.os.trans h.os, hb.tape.trans h.tape, hb.output.trans h.output, Nat.le_trans h.size hb.size, fun j hj hS => (hb.block j (Nat.lt_of_lt_of_le hj h.size)).trans (h.block j hj hS)⟩

theorem after_place {w w2 : World} {rd k bk hd nm st en mp ncol nrow N ce idx : Nat} {line : Int} {tx : ByteArray} {rc : List Value} {v0 : Value} (h : Bk w bk hd nm st en rd mp ncol nrow N ce line tx) (hr : Blk w rd rc 4) (hv0 : rc[k]? = some v0)
    (hb2 : Below (w.alloc (.cells (rowV line bk idx) 41)).drew.heap.size (w.alloc (.cells (rowV line bk idx) 41)).drew w2) :
    Below (w.heap.size + 1) (w.alloc (.cells (rowV line bk idx) 41)) w2 ∧ w2.cell? ⟨w.heap.size, 1, none⟩ = some (.pointer (some ⟨bk, 0, none⟩)) ∧ w2.cell? ⟨bk, 5, none⟩ = some (.slice (some ⟨rd, 0, none⟩) N N) ∧ w2.cell? ⟨rd, k, none⟩ = some v0 ∧ w2.frozen? ⟨rd, k, none⟩ = false := by
  have hb3 : Below (w.heap.size + 1) (w.alloc (.cells (rowV line bk idx) 41)) w2 := by
    have hx : Below (w.alloc (.cells (rowV line bk idx) 41)).heap.size (w.alloc (.cells (rowV line bk idx) 41)) w2 := ⟨hb2.os, hb2.tape, hb2.output, hb2.size, hb2.block⟩
    exact hx.mono (by simp)
  have l1 := h.bkc.lt
  have l2 := hr.lt
  exact ⟨hb3, (hb3.cell (by simp)).trans ((Blk.new w (rowV line bk idx).toList 41).cell 1), (hb3.cell (by simp; omega)).trans ((h.bkc.alloc _).cell 5), (hb3.cell (by simp; omega)).trans (((hr.alloc _).cell k).trans hv0), (hb3.frozen (by simp; omega)).trans ((hr.alloc _).free k)⟩

theorem mid_of {w w2 : World} {rd k : Nat} {rc : List Value} {line : Int} {bk idx : Nat} (hr : Blk w rd rc 4) (hb : Below (w.heap.size + 1) (w.alloc (.cells (rowV line bk idx) 41)) w2) :
    Mid w (w2.setCell ⟨rd, k, none⟩ (.bool true)) rd k 0 rc (rowV line bk idx).toList := by
  have hlt := hr.lt
  have h1 : Blk w2 rd rc 4 := (hb.block rd (by omega)).trans (hr.alloc _)
  have h2 : Blk w2 w.heap.size (rowV line bk idx).toList 41 := (hb.block _ (by omega)).trans (Blk.new w (rowV line bk idx).toList 41)
  have hs := hb.size
  refine ⟨⟨hb.os, hb.tape, hb.output, by simp [World.setCell] at hs ⊢; omega, fun j hj hne => ?_⟩, h2.other (by simp; omega) _, h1.set k _, Nat.zero_le _⟩
  rw [Below.heap_setCell _ _ _ _ hne, hb.block j (by omega), Below.heap_alloc _ _ _ hj]

set_option maxRecDepth 100000 in
set_option maxHeartbeats 400000 in
theorem text_absent (F : Interp) (bk hd nm st en rd mp ncol nrow N ce idx : Nat) (line : Int) (tx s : ByteArray) (w : World) (hF : F.answers w.tape) (h : Bk w bk hd nm st en rd mp ncol nrow N ce line tx) (hmp : mp < w.heap.size)
    (hlk : ∀ W : World, W.heap[mp]? = w.heap[mp]? → (Instr.lookup 30 (.map (some mp)) (.string s) true).run Ybaf.prog W = .ok (.tuple #[.int .i64 0, .bool false]) W) :
    Calls Ybaf.prog 10 #[.agg (rowV line bk idx), .string s] w fun e w' => (∃ a, e = .returned (.tuple #[.string ⟨#[]⟩, .iface 78 (.pointer (some a))])) ∧ Below w.heap.size w w' := by
  have b0 := (h.bkc.alloc (.cells (rowV line bk idx) 41)).cell 0
  have d2 := (h.hdc.alloc (.cells (rowV line bk idx) 41)).cell 2
  have d0 := (h.hdc.alloc (.cells (rowV line bk idx) 41)).cell 0
  simp only [List.getElem?_cons_zero, List.getElem?_cons_succ] at b0 d0 d2
  have hl := hlk (w.alloc (.cells (rowV line bk idx) 41)) (Below.heap_alloc _ _ _ hmp)
  clear h hlk
  go_enter Ybaf.func10, Ybaf.ntmps10
  go_wp2_with fail
  refine (errorf_two F _ s line (w.heap.size + 1) _ (by exact hF) (fun w => by kernel_rfl) (by exact (cells2 w _ _ _).1) (by exact (cells2 w _ _ _).2)).mono ?_
  rintro e w2 ⟨rfl, hb2⟩
  have HB : Hid (Below w.heap.size w w2) := below2 _ _ rfl hb2
  clear hb2 b0 d0 d2 hl
  go_wp2_with fail
  go_ret2
  exact ⟨⟨_, rfl⟩, HB.out⟩

theorem bytes_ne {c : ByteArray} (h : c.size ≠ 0) : c.toList.isEmpty = false := by
  rw [ByteArray.toList_eq]
  cases e : c.data.toList with
  | nil =>
    have : c.data.size = 0 := by rw [← Array.length_toList, e]; rfl
    exact absurd this h
  | cons x l => rfl

/-- what Text leaves where the column is there -/
structure TextPost (w w' : World) (e : Ending) (rd k : Nat) (rc : List Value) (c : ByteArray) : Prop where
  out : (c.size = 0 → ∃ a, e = .returned (.tuple #[.string ⟨#[]⟩, .iface 75 (.pointer (some a))])) ∧ (c.size ≠ 0 → e = .returned (.tuple #[.string c, .nilIface]))
  gr : Grew (· = rd) w w'
  rdc : Blk w' rd (rc.set k (.bool true)) 4

set_option maxRecDepth 100000 in
set_option maxHeartbeats 1000000 in
theorem text_present (F : Interp) (bk hd nm st en rd mp ncol nrow N ce idx i k : Nat) (line : Int) (tx s c : ByteArray) (rc : List Value) (w : World) (hF : F.answers w.tape) (h : Bk w bk hd nm st en rd mp ncol nrow N ce line tx) (hmp : mp < w.heap.size) (hr : Blk w rd rc 4) (hrl : rc.length = N)
    (hk : k = idx * ncol + i) (hkN : k < N) (hidx : idx ≤ 4) (hncol : ncol ≤ 6) (hi : i ≤ 6)
    (hlk : ∀ W : World, W.heap[mp]? = w.heap[mp]? → (Instr.lookup 30 (.map (some mp)) (.string s) true).run Ybaf.prog W = .ok (.tuple #[.int .i64 (i : Int), .bool true]) W)
    (hcell : ∀ W : World, Grew (· = rd) w W → Calls Ybaf.prog 23 #[.pointer (some ⟨bk, 0, none⟩), .int .i64 (idx : Int), .int .i64 (i : Int)] W fun e w' => e = .returned (.string c) ∧ Below W.heap.size W w') :
    Calls Ybaf.prog 10 #[.agg (rowV line bk idx), .string s] w fun e w' => TextPost w w' e rd k rc c := by
  have b0 := (h.bkc.alloc (.cells (rowV line bk idx) 41)).cell 0
  have b5 := (h.bkc.alloc (.cells (rowV line bk idx) 41)).cell 5
  have d2 := (h.hdc.alloc (.cells (rowV line bk idx) 41)).cell 2
  have d0 := (h.hdc.alloc (.cells (rowV line bk idx) 41)).cell 0
  simp only [List.getElem?_cons_zero, List.getElem?_cons_succ] at b0 b5 d0 d2
  have hl := hlk (w.alloc (.cells (rowV line bk idx) 41)) (Below.heap_alloc _ _ _ hmp)
  have HBk : Hid (Bk w bk hd nm st en rd mp ncol nrow N ce line tx) := h
  have HR : Hid (Blk w rd rc 4) := hr
  have HC : Hid (∀ W : World, Grew (· = rd) w W → Calls Ybaf.prog 23 #[.pointer (some ⟨bk, 0, none⟩), .int .i64 (idx : Int), .int .i64 (i : Int)] W fun e w' => e = .returned (.string c) ∧ Below W.heap.size W w') := hcell
  have hkN' : (k : Int) < (N : Int) := by omega
  obtain ⟨v0, hv0⟩ : ∃ v, rc[k]? = some v := ⟨_, List.getElem?_eq_getElem (by omega)⟩
  have HK : Hid (k = idx * ncol + i) := hk
  clear h hlk hr hcell hk
  go_enter Ybaf.func10, Ybaf.ntmps10
  go_upto_region 4 with fail
  go_cut [44] (fun v wx => Mid w wx rd k 0 rc (rowV line bk idx).toList)
  case first =>
    go_region_with (go_at_call 22; refine (place_calls bk hd nm st en rd mp ncol nrow N ce idx i line tx _ (by exact ⟨HBk.out.hdc.alloc _, HBk.out.bkc.alloc _⟩) hidx hncol hi).mono ?_; rintro e w2 ⟨rfl, hb2⟩; obtain ⟨hb3, m1, m2, m3, m4⟩ := after_place HBk.out HR.out hv0 hb2; rw [← HK.out]; clear hb2)
    all_goals (go_wp2_with fail; go_meet; exact mid_of HR.out hb3)
  case rest =>
    obtain ⟨w3, hw3⟩ : ∃ w3, w3 = wc := ⟨_, rfl⟩
    rw [← hw3] at hcut ⊢
    have HM : Hid (Mid w w3 rd k 0 rc (rowV line bk idx).toList) := hcut
    have x0 := HM.out.box.cell 0
    have x1 := HM.out.box.cell 1
    have x2 := HM.out.box.cell 2
    simp only [List.getElem?_cons_zero, List.getElem?_cons_succ] at x0 x1 x2
    clear hcut hw3 wc b0 b5 d0 d2 hl hv0
    go_wp2_with fail
    refine (HC.out _ HM.out.gr).mono ?_
    rintro e w4 ⟨rfl, hb4⟩
    have HB4 : Hid (Below w3.heap.size w3 w4) := hb4
    have l3 := HM.out.box.lt
    have y0 : w4.cell? ⟨w.heap.size, 0, none⟩ = some (.int .i64 line) := (hb4.cell l3).trans x0
    have y1 : w4.cell? ⟨w.heap.size, 1, none⟩ = some (.pointer (some ⟨bk, 0, none⟩)) := (hb4.cell l3).trans x1
    have y2 : w4.cell? ⟨w.heap.size, 2, none⟩ = some (.int .i64 (idx : Int)) := (hb4.cell l3).trans x2
    have HR4 : Hid (Blk w4 rd (rc.set k (.bool true)) 4) := (hb4.block _ HM.out.rdc.lt).trans HM.out.rdc
    have HG4 : Hid (Grew (· = rd) w w4) := HM.out.gr.below hb4
    clear hb4 x0 x1 x2
    by_cases hc : c.size = 0
    · have hc0 : c = ⟨#[]⟩ := by
        cases c with
        | mk d => have : d = #[] := Array.eq_empty_of_size_eq_zero hc
                  rw [this]
      subst hc0
      go_wp2_with fail
      refine (row_errorf F line _ _ s _ _ (by rw [HG4.out.tape]; exact hF) errorf_none).mono ?_
      rintro e w5 ⟨⟨a, rfl⟩, hb5⟩
      have HG5 : Hid (Grew (· = rd) w w5) := HG4.out.below hb5
      have HR5 : Hid (Blk w5 rd (rc.set k (.bool true)) 4) := (hb5.block _ HR4.out.lt).trans HR4.out
      clear hb5
      go_wp2_with fail
      go_ret2
      exact ⟨⟨fun _ => ⟨a, rfl⟩, fun h => absurd rfl h⟩, HG5.out, HR5.out⟩
    · have hcb : c.toList.isEmpty = false := bytes_ne hc
      go_wp2_with fail
      go_ret2
      exact ⟨⟨fun h => absurd h hc, fun _ => rfl⟩, HG4.out, HR4.out⟩
end Go.Proofs.YbulkcgzuFmt
