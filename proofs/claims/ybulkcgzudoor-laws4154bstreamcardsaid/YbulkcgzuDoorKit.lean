import Derived.Test.YbulkcgzuDoorRows
import Derived.WalkKit
import Derived.WalkSpells
import Derived.WalkLawsBesides
import Derived.ProofKit
import Derived.OpenShut
import Derived.Below
import Derived.Deep.QuietTactic
import Derived.BigQuiet
import Derived.RegionTactic
import Derived.BigRegion
import Derived.Deep.RegionWith
import Derived.Deep.RegionLaw
import Derived.Deep.DeepCutAuto
import Derived.Deep.LoopGhost
import Derived.Laws.OwnMore
import Derived.OwnWalk
import Derived.Laws.CopyOwn
import Derived.Laws.BytesArg
/-! Small words on worlds: which blocks are kept; what lies in a block that is known whole. -/
namespace Go.Proofs.YbulkcgzuDoor
open Go.RowKit

/-- every block but those of S is as it was; none is new -/
structure Kept (S : List Nat) (w w' : World) : Prop where
  os : w'.os = w.os
  tape : w'.tape = w.tape
  output : w'.output = w.output
  size : w'.heap.size = w.heap.size
  block : ∀ j, j ∉ S → w'.heap[j]? = w.heap[j]?

theorem Kept.refl (S : List Nat) (w : World) : Kept S w w := ⟨rfl, rfl, rfl, rfl, fun _ _ => rfl⟩
theorem Kept.trans {S : List Nat} {a b c : World} (h : Kept S a b) (k : Kept S b c) : Kept S a c :=
  ⟨k.os.trans h.os, k.tape.trans h.tape, k.output.trans h.output, k.size.trans h.size, fun j hj => (k.block j hj).trans (h.block j hj)⟩
theorem Kept.mono {S S' : List Nat} {a b : World} (h : Kept S a b) (hS : ∀ x, x ∈ S → x ∈ S') : Kept S' a b :=
  ⟨h.os, h.tape, h.output, h.size, fun j hj => h.block j fun hx => hj (hS j hx)⟩
theorem Kept.drewN {S : List Nat} {a w : World} (h : Kept S a w) (n : Nat) : Kept S a (w.drewN n) := ⟨h.os, h.tape, h.output, h.size, h.block⟩
theorem Kept.drew {S : List Nat} {a w : World} (h : Kept S a w) : Kept S a w.drew := ⟨h.os, h.tape, h.output, h.size, h.block⟩
theorem Kept.setCell {S : List Nat} {a w : World} (h : Kept S a w) {p : Addr} (hp : p.block ∈ S) (u : Value) : Kept S a (w.setCell p u) :=
  h.trans ⟨rfl, rfl, rfl, by simp [World.setCell], fun j hj => Below.heap_setCell _ _ _ _ fun e => hj (e ▸ hp)⟩
theorem Kept.setRow {S : List Nat} {a w : World} (h : Kept S a w) {g : Nat} (hp : g ∈ S) (cs : Array Value) : Kept S a (w.setRow g cs) :=
  h.trans ⟨rfl, rfl, rfl, by simp [World.setRow], fun j hj => setRow_other w g j cs fun e => hj (e ▸ hp)⟩
theorem Kept.cell {S : List Nat} {w w' : World} (h : Kept S w w') {p : Addr} (hp : p.block ∉ S) : w'.cell? p = w.cell? p := World.cell?_of_block (w := w) (h.block p.block hp)

/-- a block of cells, none frozen -/
def Blk (w : World) (B : Nat) (cs : List Value) (t : TypeId) : Prop := w.heap[B]? = some (.cells cs.toArray t (0, 0))

theorem Blk.cell {w : World} {B : Nat} {cs : List Value} {t : TypeId} (h : Blk w B cs t) (j : Nat) : w.cell? ⟨B, j, none⟩ = cs[j]? := by
  rw [cell_of_row w B j _ t (0, 0) h]; simp
theorem Blk.free {w : World} {B : Nat} {cs : List Value} {t : TypeId} (h : Blk w B cs t) (j : Nat) : w.frozen? ⟨B, j, none⟩ = false := frozen_of_row w B j _ t h
theorem Blk.lt {w : World} {B : Nat} {cs : List Value} {t : TypeId} (h : Blk w B cs t) : B < w.heap.size := (Array.getElem?_eq_some_iff.1 h).1
theorem Blk.kept {S : List Nat} {w w' : World} {B : Nat} {cs : List Value} {t : TypeId} (h : Blk w B cs t) (hk : Kept S w w') (hB : B ∉ S) : Blk w' B cs t := (hk.block B hB).trans h
theorem Blk.set {w : World} {B : Nat} {cs : List Value} {t : TypeId} (h : Blk w B cs t) (j : Nat) (v : Value) : Blk (w.setCell ⟨B, j, none⟩ v) B (cs.set j v) t := by
  have := heap_setCell_same w B j _ t v h
  unfold Blk
  rw [this]
  simp
theorem Blk.other {w : World} {B : Nat} {cs : List Value} {t : TypeId} (h : Blk w B cs t) {p : Addr} (hp : B ≠ p.block) (v : Value) : Blk (w.setCell p v) B cs t := (Below.heap_setCell w p v B hp).trans h

/-- copy into a block that is known whole, as one step of a region that draws: the world behind it is a variable -/
theorem step_copy_exact {P : Program} {ops : Array Oper} {o : Oper} {a : Act} {w : World} {K : Act → World → Prop} {Q : Exit → Act → World → Prop} {E : Prop} (hgd : o.guard = none) (d s : Operand) (dT sT : TypeId)
    (ho : o.op = .call { callee := .builtin .copy, args := #[d, s], argTypes := #[dT, sT] }) (elem : TypeId) (hu : P.underlying dT = some (.slice elem)) (hsz : (P.info? elem).map (·.size) = some 1)
    (g off dLen dCap : Nat) (ad : Addr) (sLen sCap : Nat) (hd : a.eval d = .slice (some ⟨g, off, none⟩) dLen dCap) (hs : a.eval s = .slice (some ad) sLen sCap)
    (cur : List Value) (t : TypeId) (hg : Blk w g cur t) (cs : List Value) (hn : cs.length = Nat.min sLen dLen)
    (hsrc : ∀ j v, cs[j]? = some v → w.cell? (ad.add j) = some v)
    (hfit : off + cs.length ≤ cur.length) (h1 : ∀ v ∈ cs, v.oneCell' = true)
    (h : ∀ w', Hid (Blk w' g (splice cur off cs) t) → Hid (Kept [g] w w') → K (a.put o.dst (goInt cs.length)) w') :
    if Region.wanted o (yielded ops a.tmps) = true then Oper.wp P o a w K Q else E := by
  have hw : Region.wanted o (yielded ops a.tmps) = true := by simp [Region.wanted, hgd]
  rw [if_pos hw]
  have hrun := run_copy_row (P := P) w dT sT o.type elem g off dLen dCap ad sLen sCap cur.toArray t cs hu hsz hg hn hsrc (by simpa using hfit) h1
  unfold Oper.wp
  simp [execOp, ho, resolve, invoke, builtin, hd, hs, hrun, Result.andThen]
  exact h _ (show _ = _ by simpa [splice] using setRow_heap w g _ _ t _ hg) ((Kept.refl [g] w).setRow (by simp) _)

/-- the same outside a region that draws -/
theorem wpList_copy_exact {P : Program} {w : World} {ops : Array Oper} {rest : List Oper} {o : Oper} {a : Act} {Q : Exit → Act → World → Prop} (hgd : o.guard = none) (d s : Operand) (dT sT : TypeId)
    (ho : o.op = .call { callee := .builtin .copy, args := #[d, s], argTypes := #[dT, sT] }) (elem : TypeId) (hu : P.underlying dT = some (.slice elem)) (hsz : (P.info? elem).map (·.size) = some 1)
    (g off dLen dCap : Nat) (ad : Addr) (sLen sCap : Nat) (hd : a.eval d = .slice (some ⟨g, off, none⟩) dLen dCap) (hs : a.eval s = .slice (some ad) sLen sCap)
    (cur : List Value) (t : TypeId) (hg : Blk w g cur t) (cs : List Value) (hn : cs.length = Nat.min sLen dLen)
    (hsrc : ∀ j v, cs[j]? = some v → w.cell? (ad.add j) = some v)
    (hfit : off + cs.length ≤ cur.length) (h1 : ∀ v ∈ cs, v.oneCell' = true)
    (h : ∀ w', Hid (Blk w' g (splice cur off cs) t) → Hid (Kept [g] w w') → wpList P ops Q rest (a.put o.dst (goInt cs.length)) w') : wpList P ops Q (o :: rest) a w := by
  refine wpList_plain hgd fun K hK => ?_
  have hrun := run_copy_row (P := P) w dT sT o.type elem g off dLen dCap ad sLen sCap cur.toArray t cs hu hsz hg hn hsrc (by simpa using hfit) h1
  unfold Oper.wp
  simp [execOp, ho, resolve, invoke, builtin, hd, hs, hrun, Result.andThen]
  exact hK _ _ (h _ (show _ = _ by simpa [splice] using setRow_heap w g _ _ t _ hg) ((Kept.refl [g] w).setRow (by simp) _))

theorem Ybad.size5 : (Ybad.prog.info? 5).map (·.size) = some 1 := by kernel_rfl
theorem Ybad.info5 : (Ybad.prog.info? 5).map (fun i => (i.zero, i.size, i.bytes)) = some (some (.int .u8 0), 1, 1) := by kernel_rfl
end Go.Proofs.YbulkcgzuDoor
