import Derived.Test.YbulkcgzuDoorState
import Derived.Laws.AppendOwnNone
import Derived.Lib.AppendStr
/-! What the walk of 'LawS4154BStream' (function 3) asks of worlds and lists. -/
namespace Go.Proofs.YbulkcgzuDoor
open Go.RowKit

/-- what the walk is told of the arguments and of the two sentinels -/
structure Given (w : World) (a1 : Option Addr) (n1 c1 : Nat) (z1 : List Int) (a2 : Option Addr) (n2 : Nat) (aE aU : Addr) : Prop where
  d0 : a1 = none → n1 = 0 ∧ c1 = 0
  d1 : n1 ≤ z1.length
  db : ∀ z, z ∈ z1 → 0 ≤ z ∧ z ≤ 255
  d2 : 0 < n1 → ∃ b off, a1 = some ⟨b, off, none⟩ ∧ ∀ j, j < n1 → w.cell? ⟨b, off + j, none⟩ = some (.int .u8 (z1.getD j 0))
  sz : Sizes w a2 n2 []
  gE : w.cell? ⟨0, 0, none⟩ = some (err aE)
  gU : w.cell? ⟨1, 0, none⟩ = some (err aU)
  ne : aE ≠ aU
  bE : ∃ c t, w.heap[aE.block]? = some (.cells c t (0, 0))
  bU : ∃ c t, w.heap[aU.block]? = some (.cells c t (0, 0))

/-- the source that the law builds -/
def srcOf (wm : Bool) (z1 : List Int) (n1 : Nat) : List Int := (if wm then [239, 187, 191] else []) ++ z1.take n1

theorem data_news {w w' : World} {a1 : Option Addr} {n1 c1 : Nat} {z1 : List Int} {a2 : Option Addr} {n2 : Nat} {aE aU : Addr} {x : Addr} (h : Given w a1 n1 c1 z1 a2 n2 aE aU) (hx : a1 = some x) (hb : Below w.heap.size w w') :
    ∀ j u, ((z1.take n1).map (Value.int .u8))[j]? = some u → w'.cell? (x.add j) = some u := by
  intro j u hu
  obtain ⟨hjl, rfl⟩ := List.getElem?_eq_some_iff.1 hu
  have hd := h.d1
  simp at hjl
  obtain ⟨b, off, e, hc⟩ := h.d2 (by omega)
  rw [hx] at e
  obtain rfl := Option.some.inj e
  have h1 := hc j (by omega)
  rw [Addr.add_lit, hb.cell (World.block_lt_of_cell? w _ h1), h1]
  have : j < z1.length := by omega
  simp [List.getD, List.getElem?_eq_getElem this]

theorem own_shape {w : World} {B n : Nat} {v : Value} {xs : List Value} (h : w.ownsRow B 5 1 v n xs) (hne : v ≠ .slice none 0 0) : ∃ g cp, v = .slice (some ⟨g, 0, none⟩) n cp ∧ n ≤ cp := by
  rcases h.2 with ⟨rfl, _⟩ | ⟨g, cap, cur, rfl, _, _, hnc, _⟩
  · exact absurd rfl hne
  · exact ⟨g, cap, rfl, hnc⟩

/-- the source's own end: io.EOF, or a new error -/
structure EndOk (w wx : World) (aE aU ea : Addr) : Prop where
  be : ∃ c t, wx.heap[ea.block]? = some (.cells c t (0, 0))
  eU : ea ≠ aU

theorem end_eof {w wx : World} {aE aU : Addr} (hne : aE ≠ aU) (hb : ∃ c t, w.heap[aE.block]? = some (.cells c t (0, 0))) (hB : Below w.heap.size w wx) : EndOk w wx aE aU aE := by
  obtain ⟨c, t, h⟩ := hb
  exact ⟨⟨c, t, (hB.block _ (Array.getElem?_eq_some_iff.1 h).1).trans h⟩, hne⟩
theorem end_new {w wx : World} {aE aU : Addr} {cs : Array Value} {t : TypeId} (_hb : ∃ c t, w.heap[aE.block]? = some (.cells c t (0, 0))) (hu : ∃ c t, w.heap[aU.block]? = some (.cells c t (0, 0))) (hB : Below w.heap.size w wx) :
    EndOk w (wx.alloc (.cells cs t)) aE aU ⟨wx.heap.size, 0, none⟩ := by
  obtain ⟨c, t', h⟩ := hu
  refine ⟨⟨cs, t, heap_alloc_new wx _⟩, fun e => ?_⟩
  have hl := (Array.getElem?_eq_some_iff.1 h).1
  rw [← e] at hl
  have := hB.size
  simp at hl
  omega

theorem three {src : List Int} (h : 3 ≤ src.length) : ∃ x0 x1 x2 r, src = x0 :: x1 :: x2 :: r := by
  match src, h with
  | x0 :: x1 :: x2 :: r, _ => exact ⟨x0, x1, x2, r, rfl⟩
theorem three_eq (x0 x1 x2 : Int) (r : List Int) : decide ((x0 :: x1 :: x2 :: r).take 3 = [239, 187, 191]) = (x0 == 239 && (x1 == 187 && x2 == 191)) := by
  rw [Bool.eq_iff_iff]; simp
theorem short3 {src : List Int} (h : src.length < 3) : ¬ src.take 3 = [239, 187, 191] := by
  intro e
  have := congrArg List.length e
  rw [List.length_take] at this
  simp at this
  omega

theorem own_reads {w : World} {B g N cp : Nat} {src : List Int} (h : w.ownsRow B 5 1 (.slice (some ⟨g, 0, none⟩) N cp) N (src.map (Value.int .u8))) : Reads w (some ⟨g, 0, none⟩) N src := by
  obtain ⟨a, c, e, hr⟩ := reads_own h
  simp at e
  rw [← e.1] at hr
  exact hr
theorem long3 {src : List Int} (h : true = decide (src.take 3 = [239, 187, 191])) : 3 ≤ src.length := by
  have h' := of_decide_eq_true h.symm
  have := congrArg List.length h'
  rw [List.length_take] at this
  simp at this
  omega
theorem want_same {w : World} {a : Option Addr} {N : Nat} {src : List Int} (h : false = decide (src.take 3 = [239, 187, 191])) (hr : Reads w a N src) : Reads w a N (wantOf src) := by
  unfold wantOf
  rw [if_neg (of_decide_eq_false h.symm)]
  exact hr
theorem want_drop {w : World} {g N : Nat} {src : List Int} (h : true = decide (src.take 3 = [239, 187, 191])) (hr : Reads w (some ⟨g, 0, none⟩) N src) (h3 : 3 ≤ N) : Reads w (some ⟨g, 3, none⟩) (N - 3) (wantOf src) := by
  unfold wantOf
  rw [if_pos (of_decide_eq_true h.symm)]
  refine ⟨by rw [List.length_drop, hr.1], fun h0 => ⟨g, 3, rfl, fun j hj => ?_⟩⟩
  obtain ⟨b, o, e, hc⟩ := hr.2 (by omega)
  simp at e
  obtain ⟨rfl, rfl⟩ := e
  have := hc (3 + j) (by omega)
  rw [Nat.zero_add] at this
  rw [this]
  simp [List.getD]
theorem want_drop0 {w : World} {a : Option Addr} {N : Nat} {src : List Int} (h : true = decide (src.take 3 = [239, 187, 191])) (hN : N = src.length) (h3 : N ≤ 3) : Reads w a 0 (wantOf src) := by
  unfold wantOf
  rw [if_pos (of_decide_eq_true h.symm)]
  exact ⟨by rw [List.length_drop]; omega, fun h0 => absurd h0 (by omega)⟩

theorem want_le (src : List Int) : (wantOf src).length ≤ src.length := by
  unfold wantOf
  split
  · rw [List.length_drop]; omega
  · omega

theorem src_bytes {P z1 src : List Int} {wm : Bool} {n1 : Nat} (h : src = P ++ z1.take n1) (hP : P = if wm then [239, 187, 191] else []) (hz : ∀ z, z ∈ z1 → 0 ≤ z ∧ z ≤ 255) : ∀ z, z ∈ src → 0 ≤ z ∧ z ≤ 255 := by
  intro z hm
  rw [h, List.mem_append] at hm
  rcases hm with hm | hm
  · rw [hP] at hm
    cases wm
    · simp at hm
    · simp at hm
      omega
  · exact hz z (List.mem_of_mem_take hm)

/-- the world in which the law's loop begins -/
structure BaseR (w wb : World) (R g N cp n2 c2 lp : Nat) (a2 : Option Addr) (aE aU ea : Addr) (src : List Int) : Prop where
  rlt : R + 1 + 1 < wb.heap.size
  glt : g < R
  env : Env wb g N cp n2 a2 aE aU ea src [R, R + 1, R + 1 + 1]
  low : Below w.heap.size w wb
  wR : w.heap.size ≤ R
  st : St wb wb R (R + 1) (R + 1 + 1) (.slice (some ⟨g, 0, none⟩) N cp) (.slice a2 n2 c2) ea src N lp wb.heap.size true 0 [] (wantOf src) (.slice none 0 0)

abbrev Base (w w4 wb : World) (g N cp n2 c2 lp : Nat) (a2 : Option Addr) (aE aU ea : Addr) (src : List Int) : Prop := BaseR w wb w4.heap.size g N cp n2 c2 lp a2 aE aU ea src

theorem base_facts {w w4 wb : World} {a1 a2 : Option Addr} {n1 c1 n2 c2 g N cp lp : Nat} {z1 src : List Int} {aE aU ea : Addr} {xs : List Value} (hIn : Given w a1 n1 c1 z1 a2 n2 aE aU) (h2 : n2 ≤ 1024) (hN : N = src.length) (hNb : N ≤ 2000) (hNcp : N ≤ cp)
    (ho : w4.ownsRow w.heap.size 5 1 (.slice (some ⟨g, 0, none⟩) N cp) N (src.map (Value.int .u8))) (hB : Below w.heap.size w w4) (hE : EndOk w w4 aE aU ea)
    (hb : wb.ownsRow (w4.heap.size + 2) 5 1 (.slice (some ⟨((w4.alloc (.cells #[.slice (some ⟨g, 0, none⟩) N cp, .int .i64 0, .slice a2 n2 c2, .int .i64 0, err ea, .int .i64 0] 28)).alloc (.cells #[.iface 26 (.pointer (some ⟨w4.heap.size, 0, none⟩)), .bool false, .slice none 0 0, .nilIface] 33)).heap.size, 0, none⟩) lp lp) lp xs)
    (hg : ((w4.alloc (.cells #[.slice (some ⟨g, 0, none⟩) N cp, .int .i64 0, .slice a2 n2 c2, .int .i64 0, err ea, .int .i64 0] 28)).alloc (.cells #[.iface 26 (.pointer (some ⟨w4.heap.size, 0, none⟩)), .bool false, .slice none 0 0, .nilIface] 33)).grownBy wb none) :
    Base w w4 wb g N cp n2 c2 lp a2 aE aU ea src := by
  have hz : ((w4.alloc (.cells #[.slice (some ⟨g, 0, none⟩) N cp, .int .i64 0, .slice a2 n2 c2, .int .i64 0, err ea, .int .i64 0] 28)).alloc (.cells #[.iface 26 (.pointer (some ⟨w4.heap.size, 0, none⟩)), .bool false, .slice none 0 0, .nilIface] 33)).heap.size = w4.heap.size + 1 + 1 := by simp
  rw [hz] at hb
  have keep : ∀ j, j < w4.heap.size → wb.heap[j]? = w4.heap[j]? := fun j hj => by
    rw [hg.block j (by rw [hz]; omega) (by simp), Below.heap_alloc _ _ _ (by simp; omega), Below.heap_alloc _ _ _ hj]
  have keepc : ∀ (b o : Nat), b < w4.heap.size → wb.cell? ⟨b, o, none⟩ = w4.cell? ⟨b, o, none⟩ := fun b o hb' => World.cell?_of_block (w := w4) (a := ⟨b, o, none⟩) (keep b hb')
  have hlow : Below w.heap.size w wb := (((hB.alloc hB.size _).alloc (by have := hB.size; simp; omega) _).grown hg (by have := hB.size; simp; omega) (by simp))
  have bR : Blk wb w4.heap.size (rdc (.slice (some ⟨g, 0, none⟩) N cp) 0 (.slice a2 n2 c2) 0 (err ea) 0) 28 := by
    unfold Blk
    rw [hg.block _ (by rw [hz]; omega) (by simp), Below.heap_alloc _ _ _ (by simp), heap_alloc_new]
    rfl
  have bS : Blk wb (w4.heap.size + 1) (skc w4.heap.size false (.slice none 0 0) .nilIface) 33 := by
    unfold Blk
    have hz1 : (w4.alloc (.cells #[.slice (some ⟨g, 0, none⟩) N cp, .int .i64 0, .slice a2 n2 c2, .int .i64 0, err ea, .int .i64 0] 28)).heap.size = w4.heap.size + 1 := by simp
    rw [hg.block _ (by rw [hz]; omega) (by simp), ← hz1, heap_alloc_new]
    rfl
  obtain ⟨gc, bG, hgl⟩ : ∃ gc, Blk wb (w4.heap.size + 1 + 1) gc 5 ∧ gc.length = lp := by
    rcases hb.2 with ⟨h', _⟩ | ⟨g', cap', cur, h', _, hgg, _, _, hs, _⟩
    · simp at h'
    · simp only [Value.slice.injEq, Option.some.injEq, Addr.mk.injEq, and_true, true_and] at h'
      obtain ⟨rfl, rfl⟩ := h'
      exact ⟨cur.toList, by unfold Blk; simpa using hgg, by simpa using hs⟩
  have hglt : g < w4.heap.size := (ho.lt g rfl).2
  have l0 := World.block_lt_of_cell? w _ hIn.gE
  have l1 := World.block_lt_of_cell? w _ hIn.gU
  have hsz := hB.size
  obtain ⟨c1', t1', b1⟩ := hIn.bE
  obtain ⟨c2', t2', b2⟩ := hIn.bU
  obtain ⟨c3', t3', b3⟩ := hE.be
  have lE : aE.block < w.heap.size := (Array.getElem?_eq_some_iff.1 b1).1
  have lU : aU.block < w.heap.size := (Array.getElem?_eq_some_iff.1 b2).1
  have le : ea.block < w4.heap.size := (Array.getElem?_eq_some_iff.1 b3).1
  have out : ∀ x, x < w4.heap.size → x ∉ [w4.heap.size, w4.heap.size + 1, w4.heap.size + 1 + 1] := fun x hx => by simp; omega
  refine ⟨bG.lt, hglt, ?_, hlow, hsz, ?_⟩
  · refine ⟨⟨hN.symm, fun j hj => ?_⟩, out _ hglt, ⟨h2, fun h0 => ?_⟩, hNb, hNcp, ?_, ?_, out _ (by simp at l0; omega), out _ (by simp at l1; omega), hIn.ne, ⟨c1', t1', (hlow.block _ lE).trans b1⟩, ⟨c2', t2', (hlow.block _ lU).trans b2⟩, ⟨c3', t3', (keep _ le).trans b3⟩, out _ (by omega), out _ (by omega), out _ le, hE.eU⟩
    · rw [keepc g j hglt, ho.cellAt j (by omega), List.getElem?_map]
      simp [List.getD, List.getElem?_eq_getElem (show j < src.length by omega)]
    · obtain ⟨b, off, e, _, hzz⟩ := hIn.sz.2 h0
      have lb : b < w.heap.size := by
        obtain ⟨z, _, _, hc⟩ := hzz 0 h0
        exact World.block_lt_of_cell? w _ hc
      refine ⟨b, off, e, out _ (by omega), fun j hj => ?_⟩
      obtain ⟨z, z0, z1', hc⟩ := hzz j hj
      exact ⟨z, z0, z1', by rw [hlow.cell (by exact lb)]; exact hc⟩
    · rw [hlow.cell (by exact l0)]; exact hIn.gE
    · rw [hlow.cell (by exact l1)]; exact hIn.gU
  · exact ⟨World.ownsRow_nil _ _ _ _, .inl ⟨rfl, ⟨bS, bR⟩, rfl, rfl, rfl, rfl⟩, ⟨gc, bG, hgl⟩, Grew.refl _ _, Nat.le_refl _, Nat.le_refl _⟩

theorem news_of {w : World} {G m : Nat} {gc : List Value} {rem : List Int} (hg : Blk w G gc 5) (h : ∀ j, j < m → gc[j]? = some (.int .u8 (rem.getD j 0))) :
    ∀ t u, ((rem.take m).map (Value.int .u8))[t]? = some u → w.cell? ((⟨G, 0, none⟩ : Addr).add t) = some u := by
  intro t u hu
  obtain ⟨htl, rfl⟩ := List.getElem?_eq_some_iff.1 hu
  simp at htl
  rw [Addr.add_lit, Nat.zero_add, hg.cell, h t (by omega)]
  simp [List.getD, List.getElem?_eq_getElem (show t < rem.length by omega)]

theorem low_grew {w wb w7 : World} {R : Nat} (h : Below w.heap.size w wb) (hg : Grew [R, R + 1, R + 1 + 1] wb w7) (hR : w.heap.size ≤ R) (hRb : R < wb.heap.size) : Below w.heap.size w w7 :=
  ⟨hg.os.trans h.os, hg.tape.trans h.tape, hg.output.trans h.output, Nat.le_trans h.size hg.size, fun k hk => (hg.block k (by omega) (by simp; omega)).trans (h.block k hk)⟩

theorem base_reads {w4 wb : World} {o1 o2 : Obj} {a : Option Addr} {n : Nat} {L : List Int} (h : Reads w4 a n L) (hg : ((w4.alloc o1).alloc o2).grownBy wb none) : Reads wb a n L := by
  refine ⟨h.1, fun h0 => ?_⟩
  obtain ⟨b, o, e, hc⟩ := h.2 h0
  refine ⟨b, o, e, fun j hj => ?_⟩
  have hlt := World.block_lt_of_cell? w4 _ (hc j hj)
  rw [World.cell?_of_block (w := w4) (a := ⟨b, o + j, none⟩) ?_]
  · exact hc j hj
  · have h1 : b < w4.heap.size := hlt
    rw [hg.block b (by simp; omega) (by simp), Below.heap_alloc _ _ _ (by simp; omega), Below.heap_alloc _ _ _ h1]

end Go.Proofs.YbulkcgzuDoor
