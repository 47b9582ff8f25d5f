import Derived.Test.YbulkchdoRows
import Derived.WalkKit
import Derived.WalkSpells
import Derived.WalkLawsBesides
import Derived.ProofKit
import Derived.OpenShut
import Derived.Below
import Derived.Deep.QuietTactic
import Derived.BigQuiet
import Derived.RegionTactic
import Derived.BigRegion
import Derived.Deep.DeepCutAuto
import Derived.Deep.LoopGhost
import Derived.Laws.OwnMore
import Derived.OwnWalk
import Derived.Laws.EntriesVeiled
/-! Small words on worlds; the contract of 'NewProtocol' (function 4). -/
namespace Go.Proofs.Ybulkchdo
open Go.RowKit

/-- every block that was there, but those of S, is as it was -/
structure Grew (S : Nat → Prop) (w w' : World) : Prop where
  os : w'.os = w.os
  tape : w'.tape = w.tape
  output : w'.output = w.output
  size : w.heap.size ≤ w'.heap.size
  block : ∀ j, j < w.heap.size → ¬ S j → w'.heap[j]? = w.heap[j]?

/-- a block of cells, none frozen -/
def Blk (w : World) (B : Nat) (cs : List Value) (t : TypeId) : Prop := w.heap[B]? = some (.cells cs.toArray t (0, 0))

theorem Blk.cell {w : World} {B : Nat} {cs : List Value} {t : TypeId} (h : Blk w B cs t) (j : Nat) : w.cell? ⟨B, j, none⟩ = cs[j]? := by
  rw [cell_of_row w B j _ t (0, 0) h]; simp
theorem Blk.free {w : World} {B : Nat} {cs : List Value} {t : TypeId} (h : Blk w B cs t) (j : Nat) : w.frozen? ⟨B, j, none⟩ = false := frozen_of_row w B j _ t h
theorem Blk.lt {w : World} {B : Nat} {cs : List Value} {t : TypeId} (h : Blk w B cs t) : B < w.heap.size := (Array.getElem?_eq_some_iff.1 h).1
theorem Blk.set {w : World} {B : Nat} {cs : List Value} {t : TypeId} (h : Blk w B cs t) (j : Nat) (v : Value) : Blk (w.setCell ⟨B, j, none⟩ v) B (cs.set j v) t := by
  have := heap_setCell_same w B j _ t v h
  unfold Blk
  rw [this]
  simp
theorem Blk.other {w : World} {B : Nat} {cs : List Value} {t : TypeId} (h : Blk w B cs t) {p : Addr} (hp : B ≠ p.block) (v : Value) : Blk (w.setCell p v) B cs t := (Below.heap_setCell w p v B hp).trans h
theorem Blk.alloc {w : World} {B : Nat} {cs : List Value} {t : TypeId} (h : Blk w B cs t) (o : Obj) : Blk (w.alloc o) B cs t := (Below.heap_alloc w o B h.lt).trans h
theorem Blk.new (w : World) (cs : List Value) (t : TypeId) : Blk (w.alloc (.cells cs.toArray t)) w.heap.size cs t := heap_alloc_new w _
theorem Blk.grown {w w' : World} {B : Nat} {cs : List Value} {t : TypeId} {row : Option Nat} (h : Blk w B cs t) (hg : w.grownBy w' row) (hB : some B ≠ row) : Blk w' B cs t := (hg.block B h.lt hB).trans h
theorem Blk.drewN {w : World} {B : Nat} {cs : List Value} {t : TypeId} (h : Blk w B cs t) (n : Nat) : Blk (w.drewN n) B cs t := h

theorem below_drewN {B : Nat} {a w : World} (h : Below B a w) : ∀ n, Below B a (w.drewN n)
  | 0 => h
  | n + 1 => (below_drewN h n).drew

/-- what NewProtocol leaves behind when it has set the types of T -/
structure NP (w w' : World) (T : List Nat) (cs : List Value) : Prop where
  self : Blk w' w.heap.size cs 28
  size : w'.heap.size = w.heap.size + 1
  gr : Grew (· ∈ T) w w'
  hit : ∀ t c, t ∈ T → Blk w t c 33 → Blk w' t (c.set 4 (.pointer (some ⟨w.heap.size, 0, none⟩))) 33

theorem NP.start (w : World) (cs : List Value) : NP w (w.alloc (.cells cs.toArray 28)) [] cs :=
  ⟨Blk.new w cs 28, by simp, ⟨rfl, rfl, rfl, by simp, fun j hj _ => Below.heap_alloc w _ j hj⟩, fun t c h => absurd h (by simp)⟩

theorem NP.step {w w' : World} {T : List Nat} {cs : List Value} {t : Nat} {c : List Value} (h : NP w w' T cs) (hc : Blk w t c 33) :
    NP w (w'.setCell ⟨t, 4, none⟩ (.pointer (some ⟨w.heap.size, 0, none⟩))) (T ++ [t]) cs := by
  have hlt := hc.lt
  refine ⟨h.self.other (by simp; omega) _, by simpa [World.setCell] using h.size, ⟨h.gr.os, h.gr.tape, h.gr.output, by have := h.size; simp [World.setCell] at this ⊢; omega, fun j hj hS => ?_⟩, fun s d hs hd => ?_⟩
  · rw [Below.heap_setCell _ _ _ _ (by intro e; exact hS (by simp [e]))]
    exact h.gr.block j hj (fun hx => hS (by simp [hx]))
  · by_cases e : s = t
    · subst e
      by_cases hm : s ∈ T
      · have := (h.hit s d hm hd).set 4 (.pointer (some ⟨w.heap.size, 0, none⟩))
        simpa using this
      · have h1 : Blk w' s d 33 := (h.gr.block s hlt hm).trans hd
        exact h1.set 4 _
    · exact (h.hit s d (by simpa [e] using hs) hd).other (by simpa using e) _

/-- the type that the next round turns: its cells, in the world of that round -/
theorem NP.look {w w' : World} {T : List Nat} {cs : List Value} {t : Nat} {c : List Value} (h : NP w w' T cs) (hc : Blk w t c 33) (h5 : c.length = 5) : (∃ v, w'.cell? ⟨t, 4, none⟩ = some v) ∧ w'.frozen? ⟨t, 4, none⟩ = false := by
  by_cases hm : t ∈ T
  · have h1 := h.hit t c hm hc
    exact ⟨⟨_, by rw [h1.cell, List.getElem?_set_self (by omega)]⟩, h1.free 4⟩
  · have h1 : Blk w' t c 33 := (h.gr.block t hc.lt hm).trans hc
    exact ⟨⟨_, by rw [h1.cell, List.getElem?_eq_getElem (by omega)]⟩, h1.free 4⟩

theorem take_next {T : List Nat} {m : Nat} (h : m < T.length) : T.take m ++ [T.getD m 0] = T.take (m + 1) := by
  rw [List.take_add_one]
  simp [List.getD, List.getElem?_eq_getElem h]

set_option maxRecDepth 100000 in
set_option maxHeartbeats 400000 in
theorem newProtocol (nm ab : ByteArray) (dc sh : Int) (hv : Value) (am : Option Addr) (n cm : Nat) (T : List Nat) (w : World) (hT : T.length = n) (hn : n ≤ 1024)
    (hm : ∀ i, i < n → ∃ g, am = some ⟨g, 0, none⟩ ∧ g ∉ T ∧ w.cell? ⟨g, i, none⟩ = some (.pointer (some ⟨T.getD i 0, 0, none⟩)))
    (hb : ∀ t, t ∈ T → ∃ c, Blk w t c 33 ∧ c.length = 5) :
    Calls Yba.prog 4 #[.agg #[.string nm, .string ab, .int .u8 dc, .int .i64 sh, .nilFunc, hv, .slice am n cm]] w fun e w' => e = .returned (.pointer (some ⟨w.heap.size, 0, none⟩)) ∧ NP w w' T [.string nm, .string ab, .int .u8 dc, .int .i64 sh, .nilFunc, hv, .slice am n cm] := by
  have HM : Hid (∀ i, i < n → ∃ g, am = some ⟨g, 0, none⟩ ∧ g ∉ T ∧ w.cell? ⟨g, i, none⟩ = some (.pointer (some ⟨T.getD i 0, 0, none⟩))) := hm
  have HB : Hid (∀ t, t ∈ T → ∃ c, Blk w t c 33 ∧ c.length = 5) := hb
  clear hm hb
  go_enter Yba.func4, Yba.ntmps4
  go_wp2_with fail
  go_loopw [8] (fun i wr => ∃ m : Nat, m ≤ n ∧ i = .int .i64 (m : Int) ∧ NP w wr (T.take m) [.string nm, .string ab, .int .u8 dc, .int .i64 sh, .nilFunc, hv, .slice am n cm]) (fun i _ => n - (intOf i).toNat)
  case atStart => exact ⟨0, Nat.zero_le _, rfl, NP.start w _⟩
  case round =>
    obtain ⟨m, hmn, rfl, hnp⟩ := hrel
    have HNP : Hid (NP w wr (T.take m) [.string nm, .string ab, .int .u8 dc, .int .i64 sh, .nilFunc, hv, .slice am n cm]) := hnp
    clear hnp
    by_cases hlt : m < n
    · obtain ⟨g, rfl, hgT, hcell⟩ := HM.out m hlt
      have hmem : T.getD m 0 ∈ T := by
        have : m < T.length := by omega
        simp [List.getD, List.getElem?_eq_getElem this]
      obtain ⟨c, hc, h5⟩ := HB.out _ hmem
      obtain ⟨⟨v, kv⟩, kf⟩ := HNP.out.look hc h5
      have kg : wr.cell? ⟨g, m, none⟩ = some (.pointer (some ⟨T.getD m 0, 0, none⟩)) := by
        rw [World.cell?_of_block (w := w) (a := ⟨g, m, none⟩) (HNP.out.gr.block g (World.block_lt_of_cell? w _ hcell) (fun hx => hgT (List.mem_of_mem_take hx)))]
        exact hcell
      have hnx : Hid (NP w (wr.setCell ⟨T.getD m 0, 4, none⟩ (.pointer (some ⟨w.heap.size, 0, none⟩))) (T.take (m + 1)) [.string nm, .string ab, .int .u8 dc, .int .i64 sh, .nilFunc, hv, .slice (some ⟨g, 0, none⟩) n cm]) := by
        have := HNP.out.step hc
        rwa [take_next (by omega)] at this
      obtain ⟨t, ht⟩ : ∃ t, t = T.getD m 0 := ⟨_, rfl⟩
      rw [← ht] at kv kf kg hnx
      clear hcell hgT hmem hc ht
      have hlti : (m : Int) < (n : Int) := by omega
      go_wp2_with fail
      go_roundw
      case rel => exact ⟨m + 1, by omega, by go_num, hnx.out⟩
      case measure => simp [intOf]; omega
    · obtain rfl : m = n := by omega
      go_wp2_with fail
      go_ret
      exact ⟨rfl, by have h := HNP.out; rwa [List.take_of_length_le (by omega)] at h⟩
end Go.Proofs.Ybulkchdo
