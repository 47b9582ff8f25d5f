import Derived.Test.YbulkcgvmRows
import Derived.WalkKit
import Derived.WalkSpells
import Derived.ProofKit
import Derived.OpenShut
import Derived.Below
import Derived.Deep.QuietTactic
import Derived.BigQuiet
import Derived.RegionTactic
import Derived.BigRegion
import Derived.Laws.OwnMore
import Derived.OwnWalk
import Derived.Lib.MinMax
import Derived.Laws.CopyOwn
/-! The contract of '(*frameReader).add' (function 9). -/
namespace Go.Proofs.Ybulkcgvm
open Go.ChangeShapes Go.WideShapes Go.ChangeAt Go.RowKit

theorem Yba.info5b : (Yba.prog.info? 5).map (fun i => (i.zero, i.size, i.bytes)) = some (some (.int .u8 0), 1, 1) := by kernel_rfl

theorem src_alloc {w w' : World} {n : Nat} {am : Option Addr} {X : List Int} (hX : X.length = n) (hb : Below w.heap.size w w')
    (hsrc : 0 < n → ∃ ad, am = some ad ∧ ∀ j, j < n → w.cell? (ad.add j) = some (.int .u8 (X.getD j 0))) :
    0 < X.length → ∃ ad, am = some ad ∧ ∀ (j : Nat) (a : Int), X[j]? = some a → w'.cell? (ad.add j) = some (.int .u8 a) := by
  intro h0
  obtain ⟨ad, rfl, hc⟩ := hsrc (by omega)
  refine ⟨ad, rfl, fun j a hj => ?_⟩
  obtain ⟨hjl, rfl⟩ := List.getElem?_eq_some_iff.1 hj
  have h := hc j (by omega)
  rw [hb.cell (World.block_lt_of_cell? w _ h), h]
  simp [List.getD, List.getElem?_eq_getElem hjl]

theorem own_splice {w : World} {B n c : Nat} {X : List Int} {Z : List Value} (hX : X.length = n) (hZ : Z.length = c) (hn : n ≤ c) (hc : c ≤ maxLen)
    (hg : w.heap[B]? = some (.cells (splice Z 0 (X.map (Value.int .u8))).toArray 5 (0, 0))) :
    w.ownsRow B 5 1 (.slice (some ⟨B, 0, none⟩) n c) n (X.map (Value.int .u8)) := by
  refine ⟨by simp [hX], .inr ⟨B, c, _, rfl, Nat.le_refl _, hg, hn, hc, ?_, ?_⟩⟩
  · simp only [List.size_toArray]
    rw [length_splice _ _ _ (by simp [hX, hZ]; omega), hZ, Nat.mul_one]
  · simp only [splice, List.take_zero, List.nil_append, Nat.mul_one]
    rw [List.take_left' (by simp [hX])]

theorem cell_setCell_block {w : World} {a q : Addr} (u : Value) (h : q.block ≠ a.block) : (w.setCell a u).cell? q = w.cell? q :=
  World.cell?_of_block (w := w) (Below.heap_setCell w a u q.block h)
theorem frozen_setCell_block {w : World} {a q : Addr} (u : Value) (h : q.block ≠ a.block) : (w.setCell a u).frozen? q = w.frozen? q :=
  World.frozen?_of_block (w := w) (Below.heap_setCell w a u q.block h)
theorem add_block (a : Addr) (j : Nat) : (a.add j).block = a.block := by unfold Addr.add; split <;> rfl

theorem news_at {w w' : World} {F lb : Nat} {ab : Addr} {Y : List Int} (hY : Y.length = lb) (hb : Below w.heap.size w w') (hab : ab.block ≠ F)
    (h : ∀ j, j < lb → w.cell? (ab.add j) = some (.int .u8 (Y.getD j 0))) (u : Value) :
    ∀ j v, (Y.map (Value.int .u8))[j]? = some v → (w'.setCell ⟨F, 3, none⟩ u).cell? (ab.add j) = some v := by
  intro j v hj
  obtain ⟨hjl, rfl⟩ := List.getElem?_eq_some_iff.1 hj
  rw [List.length_map] at hjl
  have hc := h j (by omega)
  rw [cell_setCell_block _ (by rw [add_block]; exact hab), hb.cell (World.block_lt_of_cell? w _ hc), hc]
  simp [List.getD, List.getElem?_eq_getElem hjl]

theorem cells_joined {w : World} {B n lb c : Nat} {X Y : List Int} (hX : X.length = n) (hY : Y.length = lb)
    (h : w.ownsRow B 5 1 (.slice (some ⟨B, 0, none⟩) (n + lb) c) (n + lb) (X.map (Value.int .u8) ++ Y.map (Value.int .u8))) :
    ∀ j, j < n + lb → w.cell? ⟨B, j, none⟩ = some (.int .u8 ((X ++ Y).getD j 0)) := by
  intro j hj
  rw [h.cellAt j (by omega), ← List.map_append, List.getElem?_map]
  have : j < (X ++ Y).length := by rw [List.length_append]; omega
  simp [List.getD, List.getElem?_eq_getElem this]

theorem grown_add {w w2 w3 : World} {F : Nat} {u v : Value} (_hF : F < w.heap.size) (h2 : Below w.heap.size w w2) (h3 : (w2.setCell ⟨F, 3, none⟩ u).grownBy w3 (some w.heap.size)) :
    w.grownBy (w3.setCell ⟨F, 3, none⟩ v) (some F) := by
  refine ⟨h3.os.trans h2.os, h3.tape.trans h2.tape, h3.output.trans h2.output, ?_, fun k hk hne => ?_⟩
  · have a := h2.size
    have b := h3.size
    simp [World.setCell] at b ⊢
    omega
  · have hne' : k ≠ F := by simpa using hne
    rw [Below.heap_setCell w3 _ _ k hne', h3.block k (by have := h2.size; simp [World.setCell]; omega) (by simp; omega), Below.heap_setCell w2 _ _ k hne', h2.block k hk]

set_option maxHeartbeats 400000 in
theorem add_grow (F n lb cb c : Nat) (am : Option Addr) (ab : Addr) (X Y : List Int) (L : Int) (w : World)
    (h3 : w.cell? ⟨F, 3, none⟩ = some (.slice am n n)) (f3 : w.frozen? ⟨F, 3, none⟩ = false)
    (hX : X.length = n) (hsrc : 0 < n → ∃ ad, am = some ad ∧ ∀ j, j < n → w.cell? (ad.add j) = some (.int .u8 (X.getD j 0)))
    (hY : Y.length = lb) (hb : ∀ j, j < lb → w.cell? (ab.add j) = some (.int .u8 (Y.getD j 0)))
    (hab : ab.block ≠ F) (hl0 : 0 < lb) (hL : (n : Int) + (lb : Int) ≤ L) (hL2 : L ≤ 4096) (hc : min (max ((n : Int) + (lb : Int)) (2 * (n : Int))) L = (c : Int)) :
    Calls Yba.prog 9 #[.pointer (some ⟨F, 0, none⟩), .slice (some ab) lb cb, .int .i64 L] w fun e w' => e = .returned (.tuple #[]) ∧
      w'.cell? ⟨F, 3, none⟩ = some (.slice (some ⟨w.heap.size, 0, none⟩) (n + lb) c) ∧
      (∀ j, j < n + lb → w'.cell? ⟨w.heap.size, j, none⟩ = some (.int .u8 ((X ++ Y).getD j 0))) ∧ w.grownBy w' (some F) := by
  obtain ⟨i0, hi, hz0, hz1, hz2⟩ := info_parts Yba.info5b
  have hgt : (n : Int) < (n : Int) + (lb : Int) := by omega
  have hmk : ∀ W : World, (Instr.makeSlice 23 (.int .i64 (n : Int)) (.int .i64 (c : Int))).run Yba.prog W = .ok (.slice (some ⟨W.heap.size, 0, none⟩) n c) (W.alloc (.cells (madeCells (Value.cells (.int .u8 0)) (c * 1)) 5)) := by
    intro W
    have := run_make (P := Yba.prog) W 23 5 i0 (.int .u8 0) Yba.underlying23 hi hz0 .i64 .i64 n c (by omega) (by omega) (by rw [hz2]; omega) (by omega)
    rw [hz1] at this
    simpa using this
  obtain ⟨Z, hZ, hZl⟩ : ∃ Z : List Value, madeCells (Value.cells (.int .u8 0)) (c * 1) = Z.toArray ∧ Z.length = c := ⟨(madeCells (Value.cells (.int .u8 0)) (c * 1)).toList, by simp, by rw [Array.length_toList, size_madeCells]; omega⟩
  rw [hZ] at hmk
  have HZl : Hid (Z.length = c) := hZl
  have HX : Hid (X.length = n) := hX
  have HY : Hid (Y.length = lb) := hY
  have HS : Hid (0 < n → ∃ ad, am = some ad ∧ ∀ j, j < n → w.cell? (ad.add j) = some (.int .u8 (X.getD j 0))) := hsrc
  have HB : Hid (∀ j, j < lb → w.cell? (ab.add j) = some (.int .u8 (Y.getD j 0))) := hb
  have hF : F < w.heap.size := World.block_lt_of_cell? w _ h3
  clear hZ hZl hX hY hsrc hb
  go_enter Yba.func9, Yba.ntmps9
  go_wp2
  go_big_region
  go_wp2_with (refine wpList_copy_splice rfl (.tmp 39) (.tmp 43) 23 23 rfl 5 Yba.underlying23 (by rw [hi]; simp [hz1]) _ _ _ _ _ _ rfl rfl w.heap.size 0 Z 5 ?hg (X.map (Value.int .u8)) ?hn ?hpos ?hfit (ints_oneCell _ _) w.heap.size w ?hb (Nat.le_refl _) ?_)
  case hg => exact heap_alloc_new w _
  case hn => simp [HX.out]
  case hpos => exact src_alloc HX.out ((Below.refl _ _).alloc (Nat.le_refl _) _) HS.out
  case hfit => simp [HX.out, HZl.out]; omega
  case hb => exact ((Below.refl _ _).alloc (Nat.le_refl _) _).drew
  intro w2 HG hB2
  have c3 : w2.cell? ⟨F, 3, none⟩ = some (.slice am n n) := (hB2.cell (by exact hF)).trans h3
  have z3 : w2.frozen? ⟨F, 3, none⟩ = false := (hB2.frozen (by exact hF)).trans f3
  have HO : Hid (∀ u, (w2.setCell ⟨F, 3, none⟩ u).ownsRow w.heap.size 5 1 (.slice (some ⟨w.heap.size, 0, none⟩) n c) n (X.map (Value.int .u8))) := fun u => ownsRow_setCell_below (own_splice HX.out HZl.out (by omega) (by unfold maxLen; omega) HG.out) hF u
  have HB2 : Hid (Below w.heap.size w w2) := hB2
  go_wp2_with (at_builtin; refine wpList_append_fits _ rfl (.tmp 53) (.tmp 54) 23 rfl w.heap.size 5 i0 1 Yba.underlying23 hi hz1 w.heap.size n c _ rfl (HO.out _) ab lb cb (Y.map (Value.int .u8)) rfl ?hn2 ?hc2 (ints_oneCell _ _) ?b2 ?_)
  case hn2 => simp [HY.out]
  case hc2 => exact news_at HY.out HB2.out hab HB.out _
  case b2 => omega
  intro w3 hown3 hgrow3
  have c3' : w3.cell? ⟨F, 3, none⟩ = some (.slice (some ⟨w.heap.size, 0, none⟩) n c) := hgrow3.cell (World.cell?_setCell_same _ _ _ c3) (by simp; omega)
  have z3' : w3.frozen? ⟨F, 3, none⟩ = false := by
    rw [World.frozen?_of_block (w := w2.setCell ⟨F, 3, none⟩ (.slice (some ⟨w.heap.size, 0, none⟩) n c)) (hgrow3.block F (by have := HB2.out.size; simp [World.setCell]; omega) (by simp; omega))]
    simpa using z3
  have R1 : Hid (w.grownBy (w3.setCell ⟨F, 3, none⟩ (.slice (some ⟨w.heap.size, 0, none⟩) (n + lb) c)) (some F)) := grown_add hF HB2.out hgrow3
  have R2 : Hid (∀ j, j < n + lb → (w3.setCell ⟨F, 3, none⟩ (.slice (some ⟨w.heap.size, 0, none⟩) (n + lb) c)).cell? ⟨w.heap.size, j, none⟩ = some (.int .u8 ((X ++ Y).getD j 0))) := by
    intro j hj
    rw [cell_setCell_block _ (by simp; omega)]
    exact cells_joined HX.out HY.out hown3 j hj
  have R3 : Hid ((w3.setCell ⟨F, 3, none⟩ (.slice (some ⟨w.heap.size, 0, none⟩) (n + lb) c)).cell? ⟨F, 3, none⟩ = some (.slice (some ⟨w.heap.size, 0, none⟩) (n + lb) c)) := World.cell?_setCell_same _ _ _ c3'
  clear hown3 hgrow3 hmk hi hz0 hz1 hz2
  go_wp2
  go_end0
  exact ⟨rfl, R3.out, R2.out, R1.out⟩

/-- an append of nothing -/
theorem run_append_nothing (w : World) (am ab : Option Addr) (n cb : Nat) : (Builtin.append_ #[23, 23] 23 #[.slice am n n, .slice ab 0 cb]).run Yba.prog w = .ok (.slice am n n) w := by
  obtain ⟨i0, hi, hz0, hz1, hz2⟩ := info_parts Yba.info5b
  cases am <;> cases ab <;> simp [Builtin.append_, run_underlying Yba.underlying23, sizeOf, typeInfo, hi, Builtin.lenOf, Builtin.firstCells, storeCells, loadCells, loadCellsFrom]

theorem wpList_append_nothing (w : World) {ops : Array Oper} {rest : List Oper} {o : Oper} {a : Act} {Q : Exit → Act → World → Prop}
    (hg : o.guard = none) (s x : Operand) (hop : o.op = Op.call { callee := Callee.builtin Builtin.append, args := #[s, x], argTypes := #[23, 23] }) (hty : o.type = 23)
    (am ab : Option Addr) (n cb : Nat) (hs : a.eval s = .slice am n n) (hx : a.eval x = .slice ab 0 cb)
    (hK : wpList Yba.prog ops Q rest (a.put o.dst (.slice am n n)) w) : wpList Yba.prog ops Q (o :: rest) a w := by
  refine wpList_plain hg fun K hK' => ?_
  have hrun := run_append_nothing w am ab n cb
  unfold Oper.wp
  simp [execOp, hop, resolve, invoke, builtin, hs, hx, hty, hrun, Result.andThen]
  exact hK' _ _ hK

set_option maxHeartbeats 400000 in
theorem add_same (F n cb : Nat) (am ab : Option Addr) (L : Int) (w : World) (hn : n ≤ 4096)
    (h3 : w.cell? ⟨F, 3, none⟩ = some (.slice am n n)) (f3 : w.frozen? ⟨F, 3, none⟩ = false) :
    Calls Yba.prog 9 #[.pointer (some ⟨F, 0, none⟩), .slice ab 0 cb, .int .i64 L] w fun e w' => e = .returned (.tuple #[]) ∧
      w'.cell? ⟨F, 3, none⟩ = some (.slice am n n) ∧ w.grownBy w' (some F) := by
  have R3 : Hid ((w.setCell ⟨F, 3, none⟩ (.slice am n n)).cell? ⟨F, 3, none⟩ = some (.slice am n n)) := World.cell?_setCell_same _ _ _ h3
  go_enter Yba.func9, Yba.ntmps9
  go_wp2_with (at_builtin; refine wpList_append_nothing _ rfl (.tmp 53) (.tmp 54) rfl rfl am ab n cb rfl rfl ?_)
  go_end0
  exact ⟨rfl, R3.out, ⟨rfl, rfl, rfl, by simp [World.setCell], fun k _ hk => Below.heap_setCell w _ _ k (by simpa using hk)⟩⟩
end Go.Proofs.Ybulkcgvm
