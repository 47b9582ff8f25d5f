import Derived.Test.YbulkcgzuDoorSkip
/-! The law's own loop: its state, and what one round does to it. -/
namespace Go.Proofs.YbulkcgzuDoor
open Go.RowKit

/-- the state at the loop's head; wb: the world in which the loop begins -/
structure St (wb wr : World) (R S G : Nat) (bv sv : Value) (ea : Addr) (src : List Int) (N lp B : Nat) (fr : Bool) (c : Int) (D rem : List Int) (out : Value) : Prop where
  own : wr.ownsRow B 5 1 out D.length (D.map (Value.int .u8))
  sk : (fr = true ∧ Fresh wr R S bv sv ea ∧ rem = wantOf src ∧ c = 0 ∧ out = .slice none 0 0 ∧ D = []) ∨ (fr = false ∧ Looked wr R S G bv sv ea src N B rem c)
  bf : ∃ gc, Blk wr G gc 5 ∧ gc.length = lp
  gr : Grew [R, S, G] wb wr
  b0 : wb.heap.size ≤ B
  b1 : B ≤ wr.heap.size

theorem ownsRow_grew {w w' : World} {B n : Nat} {v : Value} {xs : List Value} {S : List Nat} (h : w.ownsRow B 5 1 v n xs) (hg : Grew S w w') (hS : ∀ x, x ∈ S → x < B) : w'.ownsRow B 5 1 v n xs := by
  refine ⟨h.1, ?_⟩
  rcases h.2 with hn | ⟨g, cap, cur, rfl, hb, hgg, rest⟩
  · exact .inl hn
  · refine .inr ⟨g, cap, cur, rfl, hb, ?_, rest⟩
    rw [hg.block g (Array.getElem?_eq_some_iff.1 hgg).1 (fun hx => by have := hS g hx; omega)]
    exact hgg

theorem grownBy_keep {w w' : World} {row : Option Nat} {B : Nat} (h : w.grownBy w' row) (hr : ∀ k, row = some k → B ≤ k) {j : Nat} (hj : j < B) (hjw : j < w.heap.size) : w'.heap[j]? = w.heap[j]? :=
  h.block j hjw (fun e => by have := hr j e.symm; omega)

theorem Looked.grown {w w' : World} {R S G N B : Nat} {bv sv : Value} {ea : Addr} {src rem : List Int} {c : Int} {row : Option Nat} (h : Looked w R S G bv sv ea src N B rem c) (hg : w.grownBy w' row) (hr : ∀ k, row = some k → B ≤ k) (hR : R < B) (hS : S < B) :
    Looked w' R S G bv sv ea src N B rem c := by
  obtain ⟨hv, ev, k, i, hs, hL, hrem⟩ := h
  refine ⟨hv, ev, k, i, hs, ⟨(grownBy_keep hg hr hS hL.sk.lt).trans hL.sk, (grownBy_keep hg hr hR hL.rd.lt).trans hL.rd, hL.i0, hL.i1, hL.c1, hL.kN, ?_, hL.endd⟩, hrem⟩
  rcases hL.head with h | ⟨h0, Hd, o, cp, hc, e, h1, h2, h3, h4, h5, h6⟩
  · exact .inl h
  · exact .inr ⟨h0, Hd, o, cp, hc, e, h1, h2, h3, h4, (grownBy_keep hg hr h3 h5.lt).trans h5, h6⟩

theorem Grew.grown {S : List Nat} {a w w' : World} {row : Option Nat} {B : Nat} (h : Grew S a w) (hg : w.grownBy w' row) (hr : ∀ k, row = some k → B ≤ k) (hB : a.heap.size ≤ B) : Grew S a w' :=
  ⟨hg.os.trans h.os, hg.tape.trans h.tape, hg.output.trans h.output, Nat.le_trans h.size hg.size, fun j hj hjS => (grownBy_keep hg hr (by omega) (Nat.lt_of_lt_of_le hj h.size)).trans (h.block j hj hjS)⟩

section
variable {wb wr w' w'' : World} {R S G N lp B : Nat} {bv sv out out' : Value} {ea : Addr} {src D rem : List Int} {fr : Bool} {c : Int} {e : Ending}

/-- what skip_read asks of the state -/
theorem St.ask (h : St wb wr R S G bv sv ea src N lp B fr c D rem out) : (fr = true ∧ Fresh wr R S bv sv ea ∧ rem = wantOf src ∧ c = 0) ∨ (fr = false ∧ Looked wr R S G bv sv ea src N B rem c) := by
  rcases h.sk with ⟨h1, h2, h3, h4, _⟩ | h2
  · exact .inl ⟨h1, h2, h3, h4⟩
  · exact .inr h2

/-- behind a Read: what is gathered so far is still owned, from B' on -/
theorem St.own_after {B' : Nat} (h : St wb wr R S G bv sv ea src N lp B fr c D rem out) (hg : Grew [R, S, G] wr w') (hR : R < wb.heap.size) (hS : S < wb.heap.size) (hG : G < wb.heap.size) (hf : fr = false → B' = B) :
    w'.ownsRow B' 5 1 out D.length (D.map (Value.int .u8)) := by
  rcases h.sk with ⟨_, _, _, _, ho, hD⟩ | ⟨h1, _⟩
  · subst ho; subst hD
    exact World.ownsRow_nil _ _ _ _
  · rw [hf h1]
    have := h.b0
    refine ownsRow_grew h.own hg (fun x hx => ?_)
    simp at hx
    rcases hx with rfl | rfl | rfl <;> omega

/-- one round that gives m bytes -/
theorem St.step {B' m : Nat} {c' : Int} {gc : List Value} (h : St wb wr R S G bv sv ea src N lp B fr c D rem out) (hg : Grew [R, S, G] wr w') (hR : R < wb.heap.size) (hS : S < wb.heap.size) (hG : G < wb.heap.size)
    (hB1 : B' ≤ w'.heap.size) (hBB : B ≤ B') (hgc : Blk w' G gc 5) (hgl : gc.length = lp) (hm : m ≤ rem.length) (hL : Looked w' R S G bv sv ea src N B' (rem.drop m) c')
    (hown : w''.ownsRow B' 5 1 out' (D.length + m) (D.map (Value.int .u8) ++ (rem.take m).map (Value.int .u8))) (hgrow : w'.grownBy w'' out.ownBlock) (hrow : ∀ k, out.ownBlock = some k → B' ≤ k) :
    St wb w'' R S G bv sv ea src N lp B' false c' (D ++ rem.take m) (rem.drop m) out' := by
  have hb0 := h.b0
  refine ⟨?_, .inr ⟨rfl, hL.grown hgrow hrow (by omega) (by omega)⟩, ⟨gc, (grownBy_keep hgrow hrow (by omega) hgc.lt).trans hgc, hgl⟩, (h.gr.trans hg).grown hgrow hrow (by omega), by omega, Nat.le_trans hB1 hgrow.size⟩
  have e1 : (D ++ rem.take m).length = D.length + m := by simp; omega
  rw [e1, List.map_append]
  exact hown
end

/-- a slice value that reads L -/
def Reads (w : World) (a : Option Addr) (n : Nat) (L : List Int) : Prop := L.length = n ∧ (0 < n → ∃ b o, a = some ⟨b, o, none⟩ ∧ ∀ j, j < n → w.cell? ⟨b, o + j, none⟩ = some (.int .u8 (L.getD j 0)))

theorem convert_reads {w : World} {a : Option Addr} {n cp : Nat} {L : List Int} (h : Reads w a n L) : (convert 22 9 (.slice a n cp)).run Ybad.prog w = .ok (.string (strOfNums L)) w := by
  obtain ⟨hl, hc⟩ := h
  by_cases hn : n = 0
  · subst hn
    obtain rfl : L = [] := List.eq_nil_of_length_eq_zero hl
    cases a with
    | none => exact run_convert_bytes_nil (P := Ybad.prog) w 22 5 Ybad.underlying22 Ybad.underlying5 0 cp 9 Ybad.underlying9
    | some x =>
      rw [run_convert_bytes_string w 22 9 5 _ 0 cp Ybad.underlying22 Ybad.underlying5 Ybad.underlying9, run_bytesToString w x 0 cp [] (by simp [loadCells, loadCellsFrom])]
      rfl
  · obtain ⟨b, o, rfl, hcell⟩ := hc (by omega)
    exact run_convert_bytes_arg (P := Ybad.prog) w 22 5 Ybad.underlying22 Ybad.underlying5 b o n cp L hl hcell 9 Ybad.underlying9

theorem reads_own {w : World} {B n : Nat} {v : Value} {L : List Int} (h : w.ownsRow B 5 1 v n (L.map (Value.int .u8))) : ∃ a cp, v = .slice a n cp ∧ Reads w a n L := by
  have hl : L.length = n := by simpa using h.1
  rcases h.2 with ⟨rfl, rfl⟩ | ⟨g, cap, cur, rfl, hb, hg, hnc, hcm, hcs, htake⟩
  · exact ⟨none, 0, rfl, hl, fun h0 => absurd h0 (Nat.lt_irrefl _)⟩
  · refine ⟨some ⟨g, 0, none⟩, cap, rfl, hl, fun _ => ⟨g, 0, rfl, fun j hj => ?_⟩⟩
    rw [Nat.zero_add, h.cellAt j (by omega), List.getElem?_map]
    simp [List.getD, List.getElem?_eq_getElem (show j < L.length by omega)]

theorem Reads.grew {w w' : World} {S : List Nat} {a : Option Addr} {n : Nat} {L : List Int} (h : Reads w a n L) (hg : Grew S w w') (hS : ∀ b o, a = some ⟨b, o, none⟩ → b ∉ S) : Reads w' a n L := by
  refine ⟨h.1, fun h0 => ?_⟩
  obtain ⟨b, o, e, hc⟩ := h.2 h0
  refine ⟨b, o, e, fun j hj => ?_⟩
  rw [hg.cell (World.block_lt_of_cell? w _ (hc j hj)) (hS b o e)]
  exact hc j hj

/-- bytes.Equal over two slices that read one list -/
theorem equal_calls (a1 a2 : Option Addr) (n1 c1 n2 c2 : Nat) (L : List Int) (w : World) (h1 : Reads w a1 n1 L) (h2 : Reads w a2 n2 L) :
    Calls Ybad.prog 6 #[.slice a1 n1 c1, .slice a2 n2 c2] w fun e w' => e = .returned (.bool true) ∧ w' = w := by
  have k1 := convert_reads (cp := c1) h1
  have k2 := convert_reads (cp := c2) h2
  generalize strOfNums L = X at *
  clear h1 h2
  go_enter Ybad.func6, Ybad.ntmps6
  go_wp2
  go_ret
  exact ⟨rfl, rfl⟩

theorem neq_same (a : Addr) (w : World) : (binOp .neq 24 (err a) (err a)).run Ybad.prog w = .ok (.bool false) w := by
  obtain ⟨i, hi, hc⟩ := Option.map_eq_some_iff.1 Ybad.comp38
  obtain ⟨j, hj, _⟩ := Option.map_eq_some_iff.1 Ybad.size40
  simp only [binOp]
  simp [Op.equal, Op.maxDepth, run_equalIn_iface_ptr_same w 9998 a Ybad.underlying24 Ybad.underlying38 hi hc hj]
end Go.Proofs.YbulkcgzuDoor
