import Derived.Test.YbulkchdoKit
import Derived.Great.BuildSlice
import Derived.LaidEqlPtr
/-! What the walk of 'LawS4161BLinks' (function 3) asks of worlds and lists. -/
namespace Go.Proofs.Ybulkchdo
open Go.RowKit

theorem Yba.info29 : (Yba.prog.info? 29).map (fun i => (i.zero, i.size, i.bytes)) = some (some (.pointer none), 1, 8) := by kernel_rfl
theorem Yba.info4 : (Yba.prog.info? 4).map (fun i => (i.zero, i.size, i.bytes)) = some (some (.bool false), 1, 1) := by kernel_rfl

/-- what the walk is told of a byte slice that came in -/
structure Came (w : World) (a : Option Addr) (len : Nat) (zs : List Int) : Prop where
  le : len ≤ zs.length
  byte : ∀ z, z ∈ zs → 0 ≤ z ∧ z ≤ 255
  cell : 0 < len → ∃ b off, a = some ⟨b, off, none⟩ ∧ ∀ j, j < len → w.cell? ⟨b, off + j, none⟩ = some (.int .u8 (zs.getD j 0))

theorem Came.at {w w' : World} {a : Option Addr} {len j : Nat} {zs : List Int} (h : Came w a len zs) (hb : Below w.heap.size w w') (hj : j < len) : ∃ b off, a = some ⟨b, off, none⟩ ∧ w'.cell? ⟨b, off + j, none⟩ = some (.int .u8 (zs.getD j 0)) := by
  obtain ⟨b, off, e, hc⟩ := h.cell (by omega)
  exact ⟨b, off, e, by rw [hb.cell (World.block_lt_of_cell? w _ (hc j hj))]; exact hc j hj⟩

theorem Came.num {w : World} {a : Option Addr} {len j : Nat} {zs : List Int} (h : Came w a len zs) (hj : j < len) : 0 ≤ zs.getD j 0 ∧ zs.getD j 0 ≤ 255 := by
  have hl := h.le
  have : j < zs.length := by omega
  exact h.byte _ (by simp [List.getD, List.getElem?_eq_getElem this])

/-- a message type as the law lays it -/
abbrev mt (O : Nat) (z : List Int) (j : Nat) : List Value := [.int .u8 (z.getD j 0), .string ⟨#[109]⟩, .int .u8 0, .slice none 0 0, .pointer (some ⟨O, 0, none⟩)]

/-- the first loop: k types are laid -/
structure L1 (w wr : World) (O Q n k : Nat) (z : List Int) : Prop where
  low : Below O w wr
  size : wr.heap.size = Q + k
  ord : O + 1 < Q
  pool : ∃ pc, Blk wr (O + 1) pc 29 ∧ pc.length = n ∧ ∀ j, j < k → pc[j]? = some (.pointer (some ⟨Q + j, 0, none⟩))
  blk : ∀ j, j < k → Blk wr (Q + j) (mt O z j) 33

theorem own_blk {w : World} {B g n e : Nat} {xs : List Value} (h : w.ownsRow B e 1 (.slice (some ⟨g, 0, none⟩) n n) n xs) : Blk w g xs e ∧ xs.length = n := by
  have hl := h.1
  rcases h.2 with ⟨h', _⟩ | ⟨g', cap', cur, h', _, hg, _, _, hs, ht⟩
  · simp at h'
  · simp only [Value.slice.injEq, Option.some.injEq, Addr.mk.injEq, and_true, true_and] at h'
    obtain ⟨rfl, rfl⟩ := h'
    have : cur.toList = xs := by rw [← ht, List.take_of_length_le (by simp; omega)]
    exact ⟨by unfold Blk; rw [← this]; simpa using hg, by omega⟩

theorem L1.start {w w1 w2 : World} {O n : Nat} {z : List Int} {xs : List Value} (hO : O = w.heap.size) (o : Obj) (h1 : w1 = w.alloc o) (ho : w2.ownsRow (O + 1) 29 1 (.slice (some ⟨w1.heap.size, 0, none⟩) n n) n xs) (hg : w1.grownBy w2 none) :
    L1 w w2 O w2.heap.size n 0 z := by
  subst h1
  have hs : (w.alloc o).heap.size = O + 1 := by simp [hO]
  rw [hs] at ho
  obtain ⟨hb, hl⟩ := own_blk ho
  refine ⟨?_, rfl, hb.lt, ⟨xs, hb, hl, fun j hj => absurd hj (by omega)⟩, fun j hj => absurd hj (by omega)⟩
  exact ((Below.refl _ _).alloc (by omega) _).grown hg (by rw [hs]; omega) (by simp)

theorem L1.look {w wr : World} {O Q n k : Nat} {z : List Int} (h : L1 w wr O Q n k z) (hk : k < n) (o : Obj) : (∃ v, (wr.alloc o).cell? ⟨O + 1, k, none⟩ = some v) ∧ (wr.alloc o).frozen? ⟨O + 1, k, none⟩ = false := by
  obtain ⟨pc, hb, hl, _⟩ := h.pool
  have hb' := hb.alloc o
  exact ⟨⟨_, by rw [hb'.cell, List.getElem?_eq_getElem (by omega)]⟩, hb'.free k⟩

theorem L1.step {w wr : World} {O Q n k : Nat} {z : List Int} (h : L1 w wr O Q n k z) (hk : k < n) :
    L1 w ((wr.alloc (.cells (mt O z k).toArray 33)).setCell ⟨O + 1, k, none⟩ (.pointer (some ⟨Q + k, 0, none⟩))) O Q n (k + 1) z := by
  obtain ⟨pc, hb, hl, hp⟩ := h.pool
  have ho := h.ord
  have hsz := h.size
  refine ⟨(h.low.alloc (by omega) _).setCell (by simp) _, by simp [World.setCell, hsz]; omega, ho, ⟨pc.set k (.pointer (some ⟨Q + k, 0, none⟩)), (hb.alloc _).set k _, by simpa using hl, fun j hj => ?_⟩, fun j hj => ?_⟩
  · by_cases e : j = k
    · subst e
      rw [List.getElem?_set_self (by omega)]
    · rw [List.getElem?_set_ne (by omega)]
      exact hp j (by omega)
  · refine Blk.other ?_ (by simp; omega) _
    by_cases e : j = k
    · subst e
      have := Blk.new wr (mt O z j) 33
      rwa [hsz] at this
    · exact (h.blk j (by omega)).alloc _

/-- the second loop: ms are the numbers picked so far -/
structure Pl (w wx : World) (O Q n : Nat) (z : List Int) (ms : List Nat) : Prop where
  low : Below O w wx
  ord : O + 1 < Q
  size : Q + n + 1 ≤ wx.heap.size
  pool : ∀ j, j < n → wx.cell? ⟨O + 1, j, none⟩ = some (.pointer (some ⟨Q + j, 0, none⟩))
  blk : ∀ j, j < n → Blk wx (Q + j) (mt O z j) 33
  used : ∃ uc, Blk wx (Q + n) uc 4 ∧ uc.length = n ∧ ∀ j, j < n → uc[j]? = some (.bool (decide (j ∈ ms)))
  lt : ∀ j, j ∈ ms → j < n

theorem Pl.start {w w1 w2 : World} {O Q n : Nat} {z : List Int} (h : L1 w w1 O Q n n z) (ho : w2.ownsRow (Q + n) 4 1 (.slice (some ⟨w1.heap.size, 0, none⟩) n n) n (madeCells (Value.bool false).cells (n * 1)).toList) (hg : w1.grownBy w2 none) :
    Pl w w2 O Q n z [] := by
  rw [h.size] at ho
  obtain ⟨hb, hl⟩ := own_blk ho
  obtain ⟨pc, hp, hpl, hpc⟩ := h.pool
  have := h.ord
  refine ⟨h.low.grown hg (by rw [h.size]; omega) (by simp), h.ord, hb.lt, fun j hj => ?_, fun j hj => (h.blk j hj).grown hg (by simp), ⟨_, hb, hl, fun j hj => ?_⟩, fun j hj => absurd hj (by simp)⟩
  · rw [(hp.grown hg (by simp)).cell]
    exact hpc j hj
  · simp [madeCells, Value.cells, hj, Nat.mod_one]

theorem own_set {w : World} {B e n : Nat} {v : Value} {xs : List Value} (h : w.ownsRow B e 1 v n xs) {p : Addr} (hp : p.block < B) (u : Value) : (w.setCell p u).ownsRow B e 1 v n xs := by
  refine ⟨h.1, ?_⟩
  rcases h.2 with hn | ⟨g, cap, cur, rfl, hb, hgg, rest⟩
  · exact .inl hn
  · exact .inr ⟨g, cap, cur, rfl, hb, (Below.heap_setCell w p u g (by omega)).trans hgg, rest⟩

theorem Pl.mark {w wx : World} {O Q n j : Nat} {z : List Int} {ms : List Nat} (h : Pl w wx O Q n z ms) (hj : j < n) : Pl w (wx.setCell ⟨Q + n, j, none⟩ (.bool true)) O Q n z (ms ++ [j]) := by
  obtain ⟨uc, hb, hl, hu⟩ := h.used
  have ho := h.ord
  refine ⟨h.low.setCell (by simp; omega) _, ho, by have := h.size; simp [World.setCell] at this ⊢; omega, fun i hi => ?_, fun i hi => (h.blk i hi).other (by simp; omega) _, ⟨_, hb.set j _, by simpa using hl, fun i hi => ?_⟩, fun i hi => ?_⟩
  · rw [World.cell?_of_block (w := wx) (a := ⟨O + 1, i, none⟩) (Below.heap_setCell wx _ _ _ (by simp; omega))]
    exact h.pool i hi
  · by_cases e : i = j
    · subst e
      rw [List.getElem?_set_self (by omega)]
      simp
    · rw [List.getElem?_set_ne (by omega), hu i hi]
      simp [e]
  · rcases List.mem_append.1 hi with h1 | h1
    · exact h.lt i h1
    · simp at h1; omega

theorem Pl.grown {w wx w' : World} {O Q n : Nat} {z : List Int} {ms : List Nat} {row : Option Nat} (h : Pl w wx O Q n z ms) (hg : wx.grownBy w' row) (hr : ∀ k, row = some k → Q + n + 1 ≤ k) : Pl w w' O Q n z ms := by
  obtain ⟨uc, hb, hl, hu⟩ := h.used
  have ho := h.ord
  have hsz := h.size
  have ne : ∀ j, j < Q + n + 1 → some j ≠ row := fun j hj e => by have := hr j e.symm; omega
  refine ⟨h.low.grown hg (by omega) (fun k hk => by have := hr k hk; omega), ho, by have := hg.size; omega, fun j hj => hg.cell (h.pool j hj) (ne _ (by simp; omega)), fun j hj => (h.blk j hj).grown hg (ne _ (by omega)), ⟨uc, hb.grown hg (ne _ (by omega)), hl, hu⟩, h.lt⟩

theorem Pl.alloc {w wx : World} {O Q n : Nat} {z : List Int} {ms : List Nat} (h : Pl w wx O Q n z ms) (o : Obj) : Pl w (wx.alloc o) O Q n z ms := h.grown (World.grownBy_alloc wx o none) (by simp)

theorem Pl.usedAt {w wx : World} {O Q n j : Nat} {z : List Int} {ms : List Nat} (h : Pl w wx O Q n z ms) (hj : j < n) : wx.cell? ⟨Q + n, j, none⟩ = some (.bool (decide (j ∈ ms))) ∧ wx.frozen? ⟨Q + n, j, none⟩ = false := by
  obtain ⟨uc, hb, hl, hu⟩ := h.used
  exact ⟨by rw [hb.cell]; exact hu j hj, hb.free j⟩

/-- the picked types, as the slice holds them -/
abbrev ptrs (Q : Nat) (ms : List Nat) : List Value := ms.map fun j => .pointer (some ⟨Q + j, 0, none⟩)

theorem new_cell (w : World) (p : Addr) (u v : Value) (t : TypeId) : ∀ j u', [v][j]? = some u' → ((w.setCell p u).alloc (.cells #[v] t)).cell? ((⟨w.heap.size, 0, none⟩ : Addr).add j) = some u' := by
  intro j u' hu
  obtain ⟨hj, rfl⟩ := List.getElem?_eq_some_iff.1 hu
  have h := Blk.new (w.setCell p u) [v] t
  rw [show (w.setCell p u).heap.size = w.heap.size from by simp [World.setCell]] at h
  rw [Addr.add_lit, Nat.zero_add, h.cell, List.getElem?_eq_getElem hj]

/-- the slice of picked types, whatever its shape -/
structure Msgs (w : World) (B : Nat) (am : Option Addr) (n : Nat) (Q : Nat) (ms : List Nat) : Prop where
  len : ms.length = n
  cell : ∀ i, i < n → ∃ g, am = some ⟨g, 0, none⟩ ∧ B ≤ g ∧ w.cell? ⟨g, i, none⟩ = some (.pointer (some ⟨Q + ms.getD i 0, 0, none⟩))

theorem msgs_of {w : World} {B Q : Nat} {v : Value} {ms : List Nat} (h : w.ownsRow B 29 1 v ms.length (ptrs Q ms)) : ∃ am cm, v = .slice am ms.length cm ∧ Msgs w B am ms.length Q ms := by
  have hl := h
  rcases h.2 with ⟨rfl, h0⟩ | ⟨g, cap, cur, rfl, hb, hg, hnc, _, hs, ht⟩
  · exact ⟨none, 0, by rw [h0], rfl, fun i hi => absurd hi (by omega)⟩
  · refine ⟨_, cap, rfl, rfl, fun i hi => ⟨g, rfl, hb, ?_⟩⟩
    rw [hl.cellAt i (by simpa using hi)]
    simp [ptrs, List.getD, List.getElem?_eq_getElem hi]

theorem grown3 (w : World) (o1 o2 o3 : Obj) : w.grownBy (((w.alloc o1).alloc o2).alloc o3) none :=
  ⟨rfl, rfl, rfl, by simp; omega, fun b hb _ => (Below.heap_alloc ((w.alloc o1).alloc o2) o3 b (by simp; omega)).trans ((Below.heap_alloc (w.alloc o1) o2 b (by simp; omega)).trans (Below.heap_alloc w o1 b hb))⟩

theorem hdr3 (w : World) (o1 o3 : Obj) (v : Value) : (((w.alloc o1).alloc (.cells #[v] 35)).alloc o3).cell? ⟨w.heap.size + 1, 0, none⟩ = some v := by
  have h := (Blk.new (w.alloc o1) [v] 35).alloc o3
  rw [show (w.alloc o1).heap.size = w.heap.size + 1 from by simp] at h
  exact h.cell 0

theorem equalIn_nilFunc (w : World) (d : Nat) : (Op.equalIn (d + 1) 24 .nilFunc .nilFunc).run Yba.prog w = .ok true w := by
  simp [Op.equalIn, run_underlying Yba.underlying24]

theorem neq_nilFunc (w : World) : (binOp .neq 24 .nilFunc .nilFunc).run Yba.prog w = .ok (.bool false) w := by
  simp only [binOp]
  simp [Op.equal, Op.maxDepth, equalIn_nilFunc w 9999]

theorem neq_ptr {tp te : TypeId} (hp : Yba.prog.underlying tp = some (.pointer te)) (hte : (Yba.prog.info? te).isSome = true) (w : World) (a : Addr) :
    (binOp .neq tp (.pointer (some a)) (.pointer (some a))).run Yba.prog w = .ok (.bool false) w := by
  obtain ⟨j, hj⟩ := Option.isSome_iff_exists.1 hte
  have h : ∀ d : Nat, (Op.equalIn (d + 1) tp (.pointer (some a)) (.pointer (some a))).run Yba.prog w = .ok true w := fun d => by
    simp [Op.equalIn, run_underlying hp, sizeOf, typeInfo, hj, run_sameAddr_same]
  simp only [binOp]
  simp [Op.equal, Op.maxDepth, h 9999]

theorem neq35 : ∀ (w : World) (a : Addr), (binOp .neq 35 (.pointer (some a)) (.pointer (some a))).run Yba.prog w = .ok (.bool false) w := neq_ptr Yba.underlying35 (by kernel_rfl)
theorem neq29 : ∀ (w : World) (a : Addr), (binOp .neq 29 (.pointer (some a)) (.pointer (some a))).run Yba.prog w = .ok (.bool false) w := neq_ptr Yba.underlying29 (by kernel_rfl)
theorem neq23 : ∀ (w : World) (a : Addr), (binOp .neq 23 (.pointer (some a)) (.pointer (some a))).run Yba.prog w = .ok (.bool false) w := neq_ptr Yba.underlying23 (by kernel_rfl)

theorem eql_nil (w : World) (t e : TypeId) (a : Option Addr) (n c n' c' : Nat) (h : Yba.prog.underlying t = some (.slice e)) :
    (binOp .eql t (.slice a n c) (.slice none n' c')).run Yba.prog w = .ok (.bool a.isNone) w := by
  simp only [binOp]
  simp [Op.equal, Op.maxDepth, Lib.run_equalIn_slice_nil w 9999 t e a n c n' c' h]

/-- behind NewProtocol: S is the block behind which the header, the given protocol and the result lie -/
structure Fin (w w7 : World) (O Q k L S : Nat) (z : List Int) (ms : List Nat) (am : Option Addr) (cm : Nat) (a0 a1 : ByteArray) (a2 a3 : Int) : Prop where
  low : Below O w w7
  ord : O + 1 < Q ∧ Q + k + 1 ≤ S
  self : Blk w7 (S + 3) [.string a0, .string a1, .int .u8 a2, .int .i64 a3, .nilFunc, .slice (some ⟨S + 1, 0, none⟩) 1 1, .slice am L cm] 28
  hdr : w7.cell? ⟨S + 1, 0, none⟩ = some (.pointer (some ⟨S, 0, none⟩))
  msgs : Msgs w7 (Q + k + 1) am L Q ms
  pool : ∀ j, j < k → w7.cell? ⟨O + 1, j, none⟩ = some (.pointer (some ⟨Q + j, 0, none⟩))
  used : ∀ j, j < k → w7.cell? ⟨Q + k, j, none⟩ = some (.bool (decide (j ∈ ms)))
  blk : ∀ j, j < k → Blk w7 (Q + j) (mt (if j ∈ ms then S + 3 else O) z j) 33

theorem Fin.look {w w7 : World} {O Q k L S cm : Nat} {z : List Int} {ms : List Nat} {am : Option Addr} {a0 a1 : ByteArray} {a2 a3 : Int} {j : Nat} (h : Fin w w7 O Q k L S z ms am cm a0 a1 a2 a3) (hj : j < k) :
    w7.cell? ⟨Q + j, 0, none⟩ = some (.int .u8 (z.getD j 0)) ∧ w7.cell? ⟨Q + j, 1, none⟩ = some (.string ⟨#[109]⟩) ∧ w7.cell? ⟨Q + j, 4, none⟩ = some (.pointer (some ⟨if j ∈ ms then S + 3 else O, 0, none⟩)) := by
  have hb := h.blk j hj
  exact ⟨hb.cell 0, hb.cell 1, hb.cell 4⟩

theorem ask_msgs {w w6 : World} {B Q L : Nat} {am : Option Addr} {ms : List Nat} (h : Msgs w B am L Q ms) (hl : ∀ j, j ∈ ms → Q + j < B) (hk : ∀ b o, b < w.heap.size → w6.cell? ⟨b, o, none⟩ = w.cell? ⟨b, o, none⟩) :
    ∀ i, i < L → ∃ g, am = some ⟨g, 0, none⟩ ∧ g ∉ ms.map (Q + ·) ∧ w6.cell? ⟨g, i, none⟩ = some (.pointer (some ⟨(ms.map (Q + ·)).getD i 0, 0, none⟩)) := by
  intro i hi
  obtain ⟨g, e, hB, hc⟩ := h.cell i hi
  refine ⟨g, e, fun hm => ?_, ?_⟩
  · obtain ⟨j, hj, rfl⟩ := List.mem_map.1 hm
    have := hl j hj
    omega
  · rw [hk g i (World.block_lt_of_cell? w _ hc), hc]
    have := h.len
    simp [List.getD, List.getElem?_eq_getElem (show i < ms.length by omega)]

theorem ask_blk {w w5 w6 : World} {O Q k : Nat} {z : List Int} {ms : List Nat} (h : Pl w w5 O Q k z ms) (hk : ∀ b, b < w5.heap.size → w6.heap[b]? = w5.heap[b]?) : ∀ t, t ∈ ms.map (Q + ·) → ∃ c, Blk w6 t c 33 ∧ c.length = 5 := by
  intro t ht
  obtain ⟨j, hj, rfl⟩ := List.mem_map.1 ht
  have hb := h.blk j (h.lt j hj)
  exact ⟨_, (hk _ hb.lt).trans hb, rfl⟩

theorem fin_of {w w5 w6 w7 : World} {O Q k L S cm : Nat} {z : List Int} {ms : List Nat} {am : Option Addr} {a0 a1 : ByteArray} {a2 a3 : Int} (hS : S = w5.heap.size) (h : Pl w w5 O Q k z ms) (hM : Msgs w5 (Q + k + 1) am L Q ms) (h6 : w5.grownBy w6 none) (h6s : w6.heap.size = S + 3) (h6h : w6.cell? ⟨S + 1, 0, none⟩ = some (.pointer (some ⟨S, 0, none⟩)))
    (hn : NP w6 w7 (ms.map (Q + ·)) [.string a0, .string a1, .int .u8 a2, .int .i64 a3, .nilFunc, .slice (some ⟨S + 1, 0, none⟩) 1 1, .slice am L cm]) :
    Fin w w7 O Q k L S z ms am cm a0 a1 a2 a3 := by
  have ho := h.ord
  have hsz := h.size
  have h6p := h.grown h6 (by simp)
  have hT : ∀ x, x ∈ ms.map (Q + ·) → Q ≤ x ∧ x < Q + k := fun x hx => by
    obtain ⟨j, hj, rfl⟩ := List.mem_map.1 hx
    have := h.lt j hj
    omega
  have out : ∀ b o v, w6.cell? ⟨b, o, none⟩ = some v → (b < Q ∨ Q + k ≤ b) → w7.cell? ⟨b, o, none⟩ = some v := fun b o v hc hb => by
    rw [World.cell?_of_block (w := w6) (a := ⟨b, o, none⟩) (hn.gr.block b (World.block_lt_of_cell? w6 _ hc) (fun hx => by have := hT b hx; omega))]
    exact hc
  refine ⟨?_, ⟨ho, by omega⟩, ?_, out _ _ _ h6h (.inr (by omega)), ⟨hM.len, fun i hi => ?_⟩, fun j hj => out _ _ _ (h6p.pool j hj) (.inl (by omega)), fun j hj => out _ _ _ (h6p.usedAt hj).1 (.inr (by omega)), fun j hj => ?_⟩
  · exact ⟨hn.gr.os.trans h6p.low.os, hn.gr.tape.trans h6p.low.tape, hn.gr.output.trans h6p.low.output, Nat.le_trans h6p.low.size hn.gr.size, fun b hb => (hn.gr.block b (by omega) (fun hx => by have := hT b hx; omega)).trans (h6p.low.block b hb)⟩
  · have := hn.self
    rwa [h6s] at this
  · obtain ⟨g, e, hB, hc⟩ := hM.cell i hi
    exact ⟨g, e, hB, out _ _ _ (h6.cell hc (by simp)) (.inr (by omega))⟩
  · have hb := h6p.blk j hj
    by_cases hm : j ∈ ms
    · have := hn.hit (Q + j) _ (List.mem_map.2 ⟨j, hm, rfl⟩) hb
      rw [h6s] at this
      simpa [mt, hm] using this
    · rw [if_neg hm]
      refine (hn.gr.block (Q + j) hb.lt (fun hx => ?_)).trans hb
      obtain ⟨i, hi, e⟩ := List.mem_map.1 hx
      exact hm (by rwa [show j = i from by omega])
end Go.Proofs.Ybulkchdo
