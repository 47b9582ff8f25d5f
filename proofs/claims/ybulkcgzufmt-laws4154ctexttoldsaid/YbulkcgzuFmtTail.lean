import Derived.Test.YbulkcgzuFmtPrep
/-! What the law's end asks: the cell that Text finds; the marks behind it. -/
namespace Go.Proofs.YbulkcgzuFmt
open Go.RowKit Go.Extern.Stop Go.Stop Go.Extern Go.WideMaps Go.Maps

section
variable {w w8 : World} {O MP HD EN RD BF BK ncol nrow N : Nat} {line : Int} {S : Nat → ByteArray} {us : Nat → Bool} {tv : Value}

theorem Call.cell (h : Call w w8 O MP HD EN RD BF BK ncol nrow N line S us tv) {idx sel : Nat} (hi : idx < nrow) (hs : sel < ncol) (hcol : ncol ≤ 6) (hrow : nrow ≤ 4) (hN : nrow * ncol = N) (hsz : ∀ j, j < N → (S j).size ≤ 4096) (hN24 : N ≤ 24) (W : World) (hg : Grew (· = RD) w8 W) :
    Calls Ybaf.prog 23 #[.pointer (some ⟨BK, 0, none⟩), .int .i64 (idx : Int), .int .i64 (sel : Int)] W fun e w' => e = .returned (.string (S (idx * ncol + sel))) ∧ Below W.heap.size W w' := by
  have ho := h.ls.ord
  have ho2 := h.ord
  have hk : idx * ncol + sel < N := by
    have h1 : (idx + 1) * ncol ≤ nrow * ncol := Nat.mul_le_mul_right _ hi
    rw [Nat.succ_mul] at h1
    omega
  have hbk : Bk W BK HD O (HD + 1) EN RD MP ncol nrow N N line (strOfNums (txt S N)) := ⟨Grew.blk h.bk.hdc hg (by omega), Grew.blk h.bk.bkc hg (by omega)⟩
  obtain ⟨sc, s1, s2, s3⟩ := h.ls.st
  have hst : W.cell? ⟨HD + 1, idx, none⟩ = some (.int .i64 (pos S (idx * ncol) : Int)) := by
    rw [(Grew.blk s1 hg (by omega)).cell]; exact s3 idx hi
  have hen : ∀ j, j < N → W.cell? ⟨EN, j, none⟩ = some (.int .i64 ((pos S j + (S j).size : Nat) : Int)) := fun j hj => by
    have h1 : w8.cell? ⟨EN, j, none⟩ = some (.int .i64 ((pos S j + (S j).size : Nat) : Int)) := by
      rw [h.ls.en.cellAt j (by simpa using hj)]
      simp [endsV, hj]
    rw [World.cell?_of_block (w := w8) (a := ⟨EN, j, none⟩) (hg.block EN (World.block_lt_of_cell? w8 _ h1) (by omega))]
    exact h1
  have hcut := cut_piece S hk
  have hm := pos_mono S hk
  have hsN := txt_size S N
  have hpN := pos_le' S hsz N (Nat.le_refl _)
  by_cases h0 : sel = 0
  · subst h0
    simp only [Nat.add_zero] at hk hcut hm ⊢
    have := cell_first BK HD O (HD + 1) EN RD MP ncol nrow N N idx (pos S (idx * ncol)) (pos S (idx * ncol) + (S (idx * ncol)).size) line (strOfNums (txt S N)) W hbk hi (by omega) hcol hk hst (hen _ hk) (by omega) (by omega)
    rw [hcut] at this
    exact this
  · obtain ⟨j, hj⟩ : ∃ j, idx * ncol + sel = j + 1 := ⟨idx * ncol + sel - 1, by omega⟩
    have hpj : pos S (j + 1) = pos S j + ((S j).size + 1) := pos_succ S j
    rw [hj] at hk hcut hm ⊢
    have he := hen j (by omega)
    have := cell_next BK HD O (HD + 1) EN RD MP ncol nrow N N idx sel (pos S (j + 1)) (pos S (j + 1) + (S (j + 1)).size) (pos S (idx * ncol) : Int) line (strOfNums (txt S N)) W hbk hi (by omega) hcol (by omega) (by omega) (by rw [hj]; exact hk) hst (by rw [hj, Nat.add_sub_cancel, he, hpj]; congr 2; omega) (by rw [hj]; exact hen _ hk) (by omega) (by omega) (by omega)
    rw [hcut] at this
    exact this

theorem Call.marks (h : Call w w8 O MP HD EN RD BF BK ncol nrow N line S us tv) {w9 : World} (hb : Below w8.heap.size w8 w9) : (∀ j, j < N → w9.cell? ⟨RD, j, none⟩ = some (.bool (us j))) ∧ ∀ j, j < N → w9.cell? ⟨BF, j, none⟩ = some (.bool (us j)) := by
  obtain ⟨rc, r1, _, r3⟩ := h.ls.rd
  obtain ⟨bc, c1, _, c3⟩ := h.ls.bf
  exact ⟨fun j hj => by rw [hb.cell (by exact r1.lt), r1.cell]; exact r3 j hj, fun j hj => by rw [hb.cell (by exact c1.lt), c1.cell]; exact c3 j hj⟩

theorem Call.low (h : Call w w8 O MP HD EN RD BF BK ncol nrow N line S us tv) {w9 : World} (hO : O = w.heap.size) (hb : Below w8.heap.size w8 w9) : Below w.heap.size w w9 := by
  rw [← hO]
  have := h.ls.ord
  exact h.ls.low.trans (hb.mono (by omega))

/-- behind Text: the mark is set; the law sets its own -/
theorem Call.after (h : Call w w8 O MP HD EN RD BF BK ncol nrow N line S us tv) {w9 : World} {k : Nat} {rc : List Value} (hk : k < N) (r2 : rc.length = N) (r3 : ∀ j, j < N → rc[j]? = some (.bool (us j))) (hg : Grew (· = RD) w8 w9) (hr : Blk w9 RD (rc.set k (.bool true)) 4) (hO : O = w.heap.size) :
    (∃ v, w9.cell? ⟨BF, k, none⟩ = some v) ∧ w9.frozen? ⟨BF, k, none⟩ = false ∧ (∃ us' : Nat → Bool, (∀ j, j < N → (w9.setCell ⟨BF, k, none⟩ (.bool true)).cell? ⟨RD, j, none⟩ = some (.bool (us' j))) ∧ ∀ j, j < N → (w9.setCell ⟨BF, k, none⟩ (.bool true)).cell? ⟨BF, j, none⟩ = some (.bool (us' j))) ∧
    Below w.heap.size w (w9.setCell ⟨BF, k, none⟩ (.bool true)) ∧ w9.tape = w.tape := by
  have ho := h.ls.ord
  have hlow := h.ls.low
  obtain ⟨bc, c1, c2, c3⟩ := h.ls.bf
  have C := Grew.blk c1 hg (by omega)
  have C2 := C.set k (.bool true)
  have R2 := hr.other (p := ⟨BF, k, none⟩) (by simp; omega) (.bool true)
  have hb : Below O w w9 := ⟨hg.os.trans hlow.os, hg.tape.trans hlow.tape, hg.output.trans hlow.output, Nat.le_trans hlow.size hg.size, fun j hj => (hg.block j (by omega) (by omega)).trans (hlow.block j hj)⟩
  refine ⟨⟨_, by rw [C.cell, List.getElem?_eq_getElem (by omega)]⟩, C.free k, ⟨fun j => if j = k then true else us j, fun j hj => ?_, fun j hj => ?_⟩, by rw [← hO]; exact hb.setCell (by simp; omega) _, hb.tape⟩
  · rw [R2.cell]
    by_cases e : j = k
    · subst e; rw [List.getElem?_set_self (by omega)]; simp
    · rw [List.getElem?_set_ne (by omega), r3 j hj]; simp [e]
  · rw [C2.cell]
    by_cases e : j = k
    · subst e; rw [List.getElem?_set_self (by omega)]; simp
    · rw [List.getElem?_set_ne (by omega), c3 j hj]; simp [e]
end
end Go.Proofs.YbulkcgzuFmt
