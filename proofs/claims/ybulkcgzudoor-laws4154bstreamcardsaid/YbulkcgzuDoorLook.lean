import Derived.Test.YbulkcgzuDoorFull
/-! '(*skipper).Read' (function 5). -/
namespace Go.Proofs.YbulkcgzuDoor
open Go.RowKit

theorem full_calls (R N Bs cs sl sc H : Nat) (sa : Option Addr) (aE aU ea : Addr) (c : Int) (src : List Int) (cur : List Value) (w : World)
    (hR : Blk w R (rdc (.slice (some ⟨Bs, 0, none⟩) N cs) 0 (.slice sa sl sc) 0 (err ea) c) 28) (hH : Blk w H cur 5) (hHR : H ≠ R) (hE : Env w Bs N cs sl sa aE aU ea src [R, H])
    (hcur : cur.length = 3) (hc0 : 0 ≤ c) (hc1 : c ≤ 10000) :
    Calls Ybad.prog 7 #[.iface 26 (.pointer (some ⟨R, 0, none⟩)), .slice (some ⟨H, 0, none⟩) 3 3] w fun e w' => ∃ (k : Nat) (i' c' : Int), k = min 3 N ∧ e = .returned (.tuple #[.int .i64 (k : Int), fullErr N aE aU ea]) ∧
      RS w w' R H (.slice (some ⟨Bs, 0, none⟩) N cs) (.slice sa sl sc) ea src cur k i' c c' ∧ c + 1 ≤ c' ∧ c' ≤ c + 4 := by
  go_enter Ybad.func7, Ybad.ntmps7
  go_wp2_with fail
  refine (atleast R N Bs cs sl sc H sa aE aU ea c src cur _ hR hH hHR hE hcur hc0 hc1).mono ?_
  rintro e w' ⟨k, i', c', hk, rfl, hrs, h1, h2⟩
  have HRS : Hid (RS w w' R H (.slice (some ⟨Bs, 0, none⟩) N cs) (.slice sa sl sc) ea src cur k i' c c') := hrs
  have HK : Hid (k = min 3 N) := hk
  clear hrs hk hR hH hE
  go_wp2_with fail
  go_ret2
  exact ⟨k, i', c', HK.out, rfl, HRS.out, h1, h2⟩

/-- the skipper's own block -/
def skc (R : Nat) (lk : Bool) (hv ev : Value) : List Value := [.iface 26 (.pointer (some ⟨R, 0, none⟩)), .bool lk, hv, ev]

/-- blocks that were there and are not in S are as they were; there may be new ones -/
structure Grew (S : List Nat) (w w' : World) : Prop where
  os : w'.os = w.os
  tape : w'.tape = w.tape
  output : w'.output = w.output
  size : w.heap.size ≤ w'.heap.size
  block : ∀ j, j < w.heap.size → j ∉ S → w'.heap[j]? = w.heap[j]?

theorem Grew.refl (S : List Nat) (w : World) : Grew S w w := ⟨rfl, rfl, rfl, Nat.le_refl _, fun _ _ _ => rfl⟩
theorem Grew.trans {S : List Nat} {a b c : World} (h : Grew S a b) (k : Grew S b c) : Grew S a c :=
  ⟨k.os.trans h.os, k.tape.trans h.tape, k.output.trans h.output, Nat.le_trans h.size k.size, fun j hj hS => (k.block j (Nat.lt_of_lt_of_le hj h.size) hS).trans (h.block j hj hS)⟩
theorem Grew.alloc {S : List Nat} {a w : World} (h : Grew S a w) (o : Obj) : Grew S a (w.alloc o) :=
  h.trans ⟨rfl, rfl, rfl, by simp, fun j hj _ => Below.heap_alloc w o j hj⟩
/-- a part of a call that writes S and new blocks alone -/
theorem Grew.kept {S S' : List Nat} {a w w' : World} (h : Grew S a w) (hk : Kept S' w w') (hS : ∀ x, x ∈ S' → x ∈ S ∨ a.heap.size ≤ x) : Grew S a w' :=
  ⟨hk.os.trans h.os, hk.tape.trans h.tape, hk.output.trans h.output, by rw [hk.size]; exact h.size, fun j hj hjS => (hk.block j fun hx => (hS j hx).elim hjS (fun hle => by omega)).trans (h.block j hj hjS)⟩
theorem Grew.drewN {S : List Nat} {a w : World} (h : Grew S a w) (n : Nat) : Grew S a (w.drewN n) := ⟨h.os, h.tape, h.output, h.size, h.block⟩
theorem Grew.cell {S : List Nat} {w w' : World} (h : Grew S w w') {p : Addr} (hlt : p.block < w.heap.size) (hp : p.block ∉ S) : w'.cell? p = w.cell? p := World.cell?_of_block (w := w) (h.block p.block hlt hp)
theorem Blk.grew {S : List Nat} {w w' : World} {B : Nat} {cs : List Value} {t : TypeId} (h : Blk w B cs t) (hk : Grew S w w') (hB : B ∉ S) : Blk w' B cs t := (hk.block B h.lt hB).trans h

theorem Env.grew {w w' : World} {Bs N cs sl : Nat} {sa : Option Addr} {aE aU ea : Addr} {src : List Int} {S S' : List Nat} (h : Env w Bs N cs sl sa aE aU ea src S) (hk : Grew S w w') (hlt : Bs < w.heap.size)
    (hS : ∀ x, x ∈ S' → x ∈ S ∨ w.heap.size ≤ x) : Env w' Bs N cs sl sa aE aU ea src S' := by
  have out : ∀ x, x < w.heap.size → x ∉ S → x ∉ S' := fun x hx hxS hx' => (hS x hx').elim hxS (fun hle => by omega)
  have l0 : 0 < w.heap.size := World.block_lt_of_cell? w _ h.gE
  have l1 : 1 < w.heap.size := World.block_lt_of_cell? w _ h.gU
  obtain ⟨c1, t1, b1⟩ := h.bE
  obtain ⟨c2, t2, b2⟩ := h.bU
  obtain ⟨c3, t3, b3⟩ := h.be
  have lE : aE.block < w.heap.size := (Array.getElem?_eq_some_iff.1 b1).1
  have lU : aU.block < w.heap.size := (Array.getElem?_eq_some_iff.1 b2).1
  have le : ea.block < w.heap.size := (Array.getElem?_eq_some_iff.1 b3).1
  refine ⟨⟨h.src.1, fun j hj => by rw [hk.cell (by exact hlt) (by exact h.srcOut)]; exact h.src.2 j hj⟩, out _ hlt h.srcOut, ⟨h.sizes.1, fun h0 => ?_⟩, h.N1, h.N2, by rw [hk.cell (by exact l0) (by exact h.out0)]; exact h.gE, by rw [hk.cell (by exact l1) (by exact h.out1)]; exact h.gU,
    out _ l0 h.out0, out _ l1 h.out1, h.ne, ⟨c1, t1, (hk.block _ lE h.oE).trans b1⟩, ⟨c2, t2, (hk.block _ lU h.oU).trans b2⟩, ⟨c3, t3, (hk.block _ le h.oe).trans b3⟩, out _ lE h.oE, out _ lU h.oU, out _ le h.oe, h.eU⟩
  obtain ⟨b, off, e, hb, hz⟩ := h.sizes.2 h0
  have lb : b < w.heap.size := by
    obtain ⟨z, _, _, hc⟩ := hz 0 h0
    exact World.block_lt_of_cell? w _ hc
  refine ⟨b, off, e, out _ lb hb, fun j hj => ?_⟩
  obtain ⟨z, z0, z1, hc⟩ := hz j hj
  exact ⟨z, z0, z1, by rw [hk.cell (by exact lb) (by exact hb)]; exact hc⟩

/-- the head's value hv: the bytes hs, in a block of its own below B -/
def HeadIs (w : World) (R S G B : Nat) (hv : Value) (hs : List Int) : Prop :=
  (hs = [] ∧ ∃ a cp, hv = .slice a 0 cp) ∨
  (0 < hs.length ∧ ∃ (Hd o cp : Nat) (hc : List Value), hv = .slice (some ⟨Hd, o, none⟩) hs.length cp ∧ hs.length ≤ cp ∧ cp ≤ 3 ∧ Hd < B ∧ Hd ∉ [R, S, G] ∧ Blk w Hd hc 5 ∧ ∀ j, j < hs.length → hc[o + j]? = some (.int .u8 (hs.getD j 0)))

/-- the skipper has looked: it gives the head hs first, then the source from k on; behind that its error, which is the source's own -/
structure LookedAt (w : World) (R S G : Nat) (bv sv : Value) (ea : Addr) (N B : Nat) (hv ev : Value) (k : Nat) (i c : Int) (hs : List Int) : Prop where
  sk : Blk w S (skc R true hv ev) 33
  rd : Blk w R (rdc bv k sv i (err ea) c) 28
  i0 : 0 ≤ i
  i1 : i ≤ c
  c1 : 1 ≤ c
  kN : k ≤ N
  head : HeadIs w R S G B hv hs
  endd : ev = .nilIface ∨ (ev = err ea ∧ k = N)

def Looked (w : World) (R S G : Nat) (bv sv : Value) (ea : Addr) (src : List Int) (N B : Nat) (rem : List Int) (c : Int) : Prop :=
  ∃ hv ev k i hs, LookedAt w R S G bv sv ea N B hv ev k i c hs ∧ rem = hs ++ src.drop k

def Fresh (w : World) (R S : Nat) (bv sv : Value) (ea : Addr) : Prop := Blk w S (skc R false (.slice none 0 0) .nilIface) 33 ∧ Blk w R (rdc bv 0 sv 0 (err ea) 0) 28

/-- what the law wants -/
def wantOf (src : List Int) : List Int := if src.take 3 = [239, 187, 191] then src.drop 3 else src

end Go.Proofs.YbulkcgzuDoor
