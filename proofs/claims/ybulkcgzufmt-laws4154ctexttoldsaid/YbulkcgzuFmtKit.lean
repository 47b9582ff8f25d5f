import Derived.Test.YbulkcgzuFmtRows
import Derived.WalkKit
import Derived.WalkSpells
import Derived.WalkLawsBesides
import Derived.ProofKit
import Derived.OpenShut
import Derived.ShutString
import Derived.Below
import Derived.Deep.QuietTactic
import Derived.BigQuiet
import Derived.Deep.RegionWith
import Derived.Deep.DeepCutAuto
import Derived.Deep.LoopGhost
import Derived.Laws.OwnMore
import Derived.OwnWalk
/-! Small words on worlds. -/
namespace Go.Proofs.YbulkcgzuFmt
open Go.RowKit

/-- every block that was there, but those of S, is as it was -/
structure Grew (S : Nat → Prop) (w w' : World) : Prop where
  os : w'.os = w.os
  tape : w'.tape = w.tape
  output : w'.output = w.output
  size : w.heap.size ≤ w'.heap.size
  block : ∀ j, j < w.heap.size → ¬ S j → w'.heap[j]? = w.heap[j]?

/-- a block of cells, none frozen -/
def Blk (w : World) (B : Nat) (cs : List Value) (t : TypeId) : Prop := w.heap[B]? = some (.cells cs.toArray t (0, 0))

theorem Blk.cell {w : World} {B : Nat} {cs : List Value} {t : TypeId} (h : Blk w B cs t) (j : Nat) : w.cell? ⟨B, j, none⟩ = cs[j]? := by
  rw [cell_of_row w B j _ t (0, 0) h]; simp
theorem Blk.free {w : World} {B : Nat} {cs : List Value} {t : TypeId} (h : Blk w B cs t) (j : Nat) : w.frozen? ⟨B, j, none⟩ = false := frozen_of_row w B j _ t h
theorem Blk.lt {w : World} {B : Nat} {cs : List Value} {t : TypeId} (h : Blk w B cs t) : B < w.heap.size := (Array.getElem?_eq_some_iff.1 h).1
theorem Blk.set {w : World} {B : Nat} {cs : List Value} {t : TypeId} (h : Blk w B cs t) (j : Nat) (v : Value) : Blk (w.setCell ⟨B, j, none⟩ v) B (cs.set j v) t := by
  have := heap_setCell_same w B j _ t v h
  unfold Blk
  rw [this]
  simp
theorem Blk.other {w : World} {B : Nat} {cs : List Value} {t : TypeId} (h : Blk w B cs t) {p : Addr} (hp : B ≠ p.block) (v : Value) : Blk (w.setCell p v) B cs t := (Below.heap_setCell w p v B hp).trans h
theorem Blk.alloc {w : World} {B : Nat} {cs : List Value} {t : TypeId} (h : Blk w B cs t) (o : Obj) : Blk (w.alloc o) B cs t := (Below.heap_alloc w o B h.lt).trans h
theorem Blk.new (w : World) (cs : List Value) (t : TypeId) : Blk (w.alloc (.cells cs.toArray t)) w.heap.size cs t := heap_alloc_new w _
theorem Blk.grown {w w' : World} {B : Nat} {cs : List Value} {t : TypeId} {row : Option Nat} (h : Blk w B cs t) (hg : w.grownBy w' row) (hB : some B ≠ row) : Blk w' B cs t := (hg.block B h.lt hB).trans h
theorem Blk.drewN {w : World} {B : Nat} {cs : List Value} {t : TypeId} (h : Blk w B cs t) (n : Nat) : Blk (w.drewN n) B cs t := h

theorem below_drewN {B : Nat} {a w : World} (h : Below B a w) : ∀ n, Below B a (w.drewN n)
  | 0 => h
  | n + 1 => (below_drewN h n).drew

end Go.Proofs.YbulkcgzuFmt
