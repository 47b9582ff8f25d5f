import Derived.Test.YbulkcgzuFmtKit
/-! The contracts of Row.place (22), block.cell (23) and the law's own comparison (11). -/
namespace Go.Proofs.YbulkcgzuFmt
open Go.RowKit

/-- a block and its header -/
structure Bk (w : World) (bk hd nm st en rd mp ncol nrow N ce : Nat) (line : Int) (tx : ByteArray) : Prop where
  hdc : Blk w hd [.int .i64 line, .slice (some ⟨nm, 0, none⟩) ncol ncol, .map (some mp)] 33
  bkc : Blk w bk [.pointer (some ⟨hd, 0, none⟩), .string tx, .slice none 0 0, .slice (some ⟨st, 0, none⟩) nrow nrow, .slice (some ⟨en, 0, none⟩) N ce, .slice (some ⟨rd, 0, none⟩) N N] 39

theorem Bk.low {w w' : World} {B bk hd nm st en rd mp ncol nrow N ce : Nat} {line : Int} {tx : ByteArray} (h : Bk w bk hd nm st en rd mp ncol nrow N ce line tx) (hb : Below B w w') (h1 : hd < B) (h2 : bk < B) : Bk w' bk hd nm st en rd mp ncol nrow N ce line tx :=
  ⟨(hb.block _ h1).trans h.hdc, (hb.block _ h2).trans h.bkc⟩

set_option maxRecDepth 100000 in
theorem place_calls (bk hd nm st en rd mp ncol nrow N ce idx i : Nat) (line : Int) (tx : ByteArray) (w : World) (h : Bk w bk hd nm st en rd mp ncol nrow N ce line tx) (h1 : idx ≤ 4) (h2 : ncol ≤ 6) (h3 : i ≤ 6) :
    Calls Ybaf.prog 22 #[.agg #[.int .i64 line, .pointer (some ⟨bk, 0, none⟩), .int .i64 (idx : Int)], .int .i64 (i : Int)] w fun e w' => e = .returned (.int .i64 ((idx * ncol + i : Nat) : Int)) ∧ Below w.heap.size w w' := by
  have b0 := (h.bkc.alloc (.cells #[.int .i64 line, .pointer (some ⟨bk, 0, none⟩), .int .i64 (idx : Int)] 41)).cell 0
  have d1 := (h.hdc.alloc (.cells #[.int .i64 line, .pointer (some ⟨bk, 0, none⟩), .int .i64 (idx : Int)] 41)).cell 1
  simp only [List.getElem?_cons_zero, List.getElem?_cons_succ] at b0 d1
  clear h
  obtain ⟨p, hp⟩ : ∃ p : Nat, (idx : Int) * (ncol : Int) = (p : Int) := ⟨idx * ncol, by simp⟩
  have hp' : idx * ncol = p := by exact_mod_cast hp
  have hp2 : p ≤ 24 := by rw [← hp']; exact Nat.mul_le_mul h1 h2
  rw [hp']
  clear hp'
  go_enter Ybaf.func22, Ybaf.ntmps22
  go_wp2
  go_quiet (fail)
  go_wp2
  go_ret
  exact ⟨by simp, below_drewN ((Below.refl _ _).alloc (Nat.le_refl _) _) _⟩

set_option maxRecDepth 100000 in
theorem cell_first (bk hd nm st en rd mp ncol nrow N ce row a b : Nat) (line : Int) (tx : ByteArray) (w : World) (h : Bk w bk hd nm st en rd mp ncol nrow N ce line tx) (h1 : row < nrow) (h1' : row ≤ 4) (h2 : ncol ≤ 6) (hk : row * ncol < N)
    (hs : w.cell? ⟨st, row, none⟩ = some (.int .i64 (a : Int))) (he : w.cell? ⟨en, row * ncol, none⟩ = some (.int .i64 (b : Int))) (hab : a ≤ b) (hbt : b ≤ tx.size) :
    Calls Ybaf.prog 23 #[.pointer (some ⟨bk, 0, none⟩), .int .i64 (row : Int), .int .i64 0] w fun e w' => e = .returned (.string (tx.extract a b)) ∧ Below w.heap.size w w' := by
  have b0 := h.bkc.cell 0
  have b1 := h.bkc.cell 1
  have b3 := h.bkc.cell 3
  have b4 := h.bkc.cell 4
  have d1 := h.hdc.cell 1
  simp only [List.getElem?_cons_zero, List.getElem?_cons_succ] at b0 b1 b3 b4 d1
  clear h
  obtain ⟨p, hp⟩ : ∃ p : Nat, (row : Int) * (ncol : Int) = (p : Int) := ⟨row * ncol, by simp⟩
  have hp' : row * ncol = p := by exact_mod_cast hp
  rw [hp'] at hk he
  have hp2 : p ≤ 24 := by rw [← hp']; exact Nat.mul_le_mul h1' h2
  clear hp'
  have h1i : (row : Int) < (nrow : Int) := by omega
  have hki : (p : Int) < (N : Int) := by omega
  have hai : (a : Int) ≤ (b : Int) := by omega
  have hbi : (b : Int) ≤ (tx.size : Int) := by omega
  go_enter Ybaf.func23, Ybaf.ntmps23
  go_wp2
  go_quiet (fail)
  go_wp2
  go_ret
  exact ⟨rfl, below_drewN (Below.refl _ _) _⟩

set_option maxRecDepth 100000 in
theorem cell_next (bk hd nm st en rd mp ncol nrow N ce row i a b : Nat) (S line : Int) (tx : ByteArray) (w : World) (h : Bk w bk hd nm st en rd mp ncol nrow N ce line tx) (h1 : row < nrow) (h1' : row ≤ 4) (h2 : ncol ≤ 6) (hi : 0 < i) (hi' : i ≤ 6) (hk : row * ncol + i < N)
    (hs0 : w.cell? ⟨st, row, none⟩ = some (.int .i64 S)) (hs : w.cell? ⟨en, row * ncol + i - 1, none⟩ = some (.int .i64 ((a : Int) - 1))) (he : w.cell? ⟨en, row * ncol + i, none⟩ = some (.int .i64 (b : Int))) (hab : a ≤ b) (hbt : b ≤ tx.size) (hbb : b ≤ 1000000) :
    Calls Ybaf.prog 23 #[.pointer (some ⟨bk, 0, none⟩), .int .i64 (row : Int), .int .i64 (i : Int)] w fun e w' => e = .returned (.string (tx.extract a b)) ∧ Below w.heap.size w w' := by
  have b0 := h.bkc.cell 0
  have b1 := h.bkc.cell 1
  have b3 := h.bkc.cell 3
  have b4 := h.bkc.cell 4
  have d1 := h.hdc.cell 1
  simp only [List.getElem?_cons_zero, List.getElem?_cons_succ] at b0 b1 b3 b4 d1
  clear h
  obtain ⟨p, hp⟩ : ∃ p : Nat, (row : Int) * (ncol : Int) = (p : Int) := ⟨row * ncol, by simp⟩
  have hp' : row * ncol = p := by exact_mod_cast hp
  rw [hp'] at hk he hs
  have hp2 : p ≤ 24 := by rw [← hp']; exact Nat.mul_le_mul h1' h2
  clear hp'
  obtain ⟨k, hkk⟩ : ∃ k : Nat, k = p + i := ⟨_, rfl⟩
  obtain ⟨q, hq⟩ : ∃ q : Nat, q = k - 1 := ⟨_, rfl⟩
  have hq' : (p : Int) + (i : Int) = (k : Int) := by omega
  have hq2 : (k : Int) - 1 = (q : Int) := by omega
  rw [← hkk] at hk he hs
  rw [← hq] at hs
  have hqN : q < N := by omega
  clear hq hkk
  have h1i : (row : Int) < (nrow : Int) := by omega
  have hi0 : (0 : Int) < (i : Int) := by omega
  have hqi : (q : Int) < (N : Int) := by omega
  have hki : (k : Int) < (N : Int) := by omega
  have hai : (a : Int) ≤ (b : Int) := by omega
  have hbi : (b : Int) ≤ (tx.size : Int) := by omega
  have haa : (a : Int) - 1 + 1 = (a : Int) := by omega
  go_enter Ybaf.func23, Ybaf.ntmps23
  go_wp2
  go_quiet (fail)
  go_wp2
  go_ret
  exact ⟨rfl, below_drewN (Below.refl _ _) _⟩

set_option maxRecDepth 100000 in
theorem ceq_calls (rd bf N : Nat) (us : Nat → Bool) (w : World) (hr : ∀ j, j < N → w.cell? ⟨rd, j, none⟩ = some (.bool (us j))) (hb : ∀ j, j < N → w.cell? ⟨bf, j, none⟩ = some (.bool (us j))) (hN : N ≤ 24) :
    Calls Ybaf.prog 11 #[.slice (some ⟨rd, 0, none⟩) N N, .slice (some ⟨bf, 0, none⟩) N N] w fun e w' => e = .returned (.bool true) ∧ Below w.heap.size w w' := by
  have HR : Hid (∀ j, j < N → w.cell? ⟨rd, j, none⟩ = some (.bool (us j))) := hr
  have HB : Hid (∀ j, j < N → w.cell? ⟨bf, j, none⟩ = some (.bool (us j))) := hb
  clear hr hb
  go_enter Ybaf.func11, Ybaf.ntmps11
  go_wp2_with fail
  go_loopw [5] (fun i wr => ∃ q d : Nat, q ≤ N ∧ i = .int .i64 (q : Int) ∧ wr = w.drewN d) (fun i _ => N - (intOf i).toNat)
  case atStart => exact ⟨0, 0, Nat.zero_le _, rfl, rfl⟩
  case round =>
    obtain ⟨q, d, hq, rfl, rfl⟩ := hrel
    by_cases hlt : q < N
    · have x1 := HR.out q hlt
      have x2 := HB.out q hlt
      have hlti : (q : Int) < (N : Int) := by omega
      obtain ⟨u, hu⟩ : ∃ u, u = us q := ⟨_, rfl⟩
      rw [← hu] at x1 x2
      clear hu
      cases u <;>
        (go_wp2
         go_quiet (fail)
         go_wp2
         go_roundw
         case rel => exact ⟨q + 1, _, by omega, by go_num, rfl⟩
         case measure => simp [intOf]; omega)
    · go_wp2_with fail
      go_ret
      exact ⟨rfl, below_drewN (Below.refl _ _) _⟩
end Go.Proofs.YbulkcgzuFmt
