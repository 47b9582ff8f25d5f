import Derived.Test.YbulkcgzuDoorLook
import Derived.Lib.Strings
/-! '(*skipper).Read' (function 5): the walk. -/
namespace Go.Proofs.YbulkcgzuDoor
open Go.RowKit

/-- what one Read leaves -/
def SkPost (w w' : World) (R S G : Nat) (bv sv : Value) (ea : Addr) (src : List Int) (N B lp : Nat) (rem : List Int) (c : Int) (fr : Bool) (e : Ending) : Prop :=
  ∃ (B' : Nat) (c' : Int) (gc : List Value), B' ≤ w'.heap.size ∧ B ≤ B' ∧ (fr = false → B' = B) ∧ c' ≤ c + 6 ∧ Blk w' G gc 5 ∧ gc.length = lp ∧ Grew [R, S, G] w w' ∧
    ((rem = [] ∧ e = .returned (.tuple #[.int .i64 0, err ea]) ∧ Looked w' R S G bv sv ea src N B' [] c') ∨
     (∃ m, 1 ≤ m ∧ m ≤ lp ∧ m ≤ rem.length ∧ e = .returned (.tuple #[.int .i64 (m : Int), .nilIface]) ∧ (∀ j, j < m → gc[j]? = some (.int .u8 (rem.getD j 0))) ∧ Looked w' R S G bv sv ea src N B' (rem.drop m) c'))

/-- what the look leaves -/
def Mid (w wx : World) (R S G : Nat) (bv sv : Value) (ea : Addr) (src : List Int) (N B : Nat) (rem : List Int) (c : Int) (fr : Bool) (gc : List Value) : Prop :=
  ∃ (B1 : Nat) (c1 : Int), Looked wx R S G bv sv ea src N B1 rem c1 ∧ B1 ≤ wx.heap.size ∧ B ≤ B1 ∧ (fr = false → B1 = B) ∧ c1 ≤ c + 4 ∧ Grew [R, S, G] w wx ∧ Blk wx G gc 5

section
variable {w w1 w2 : World} {R S G N Bs cs B B1 lp k : Nat} {sv : Value} {ea : Addr} {src rem hs : List Int} {c c1 i : Int} {fr : Bool} {gc : List Value}

theorem HeadIs.none (w : World) (R S G B : Nat) (a : Option Addr) (cp : Nat) : HeadIs w R S G B (.slice a 0 cp) [] := .inl ⟨rfl, a, cp, rfl⟩
theorem HeadIs.kept {hv : Value} {S' : List Nat} (h : HeadIs w1 R S G B hv hs) (hk : Kept S' w1 w2) (hS : ∀ x, x ∈ S' → x ∈ [R, S, G]) : HeadIs w2 R S G B hv hs := by
  rcases h with h | ⟨h0, Hd, o, cp, hc, e, h1, h2, h3, h4, h5, h6⟩
  · exact .inl h
  · exact .inr ⟨h0, Hd, o, cp, hc, e, h1, h2, h3, h4, h5.kept hk (fun hx => h4 (hS _ hx)), h6⟩

theorem sizes_sub {sa : Option Addr} {sl : Nat} (h : Sizes w sa sl [R, S, G]) : Sizes w sa sl [R, G] :=
  ⟨h.1, fun h0 => by
    obtain ⟨b, off, e, hb, hz⟩ := h.2 h0
    exact ⟨b, off, e, by simp at hb ⊢; exact ⟨hb.1, hb.2.2⟩, hz⟩⟩

theorem head_cells {Hd o n : Nat} {hc : List Value} (hHb : Blk w1 Hd hc 5) (hHc : ∀ j, j < hs.length → hc[o + j]? = some (.int .u8 (hs.getD j 0))) (hn : n ≤ hs.length) :
    ∀ t v, ((hs.take n).map (Value.int .u8))[t]? = some v → w1.cell? ((⟨Hd, o, none⟩ : Addr).add t) = some v := by
  intro t v hv
  obtain ⟨htl, rfl⟩ := List.getElem?_eq_some_iff.1 hv
  simp at htl
  rw [Addr.add_lit, hHb.cell, hHc t (by omega)]
  have h1 : t < hs.length := by omega
  simp [List.getD, List.getElem?_eq_getElem h1]
theorem sk_cell {bv hv ev : Value} (h : LookedAt w1 R S G bv sv ea N B1 hv ev k i c1 hs) (hSG : S ≠ G) (hk : Kept [G] w1 w2) : w2.cell? ⟨S, 2, none⟩ = some hv := (h.sk.kept hk (by simpa using hSG)).cell 2
theorem sk_free {bv hv ev : Value} (h : LookedAt w1 R S G bv sv ea N B1 hv ev k i c1 hs) (hSG : S ≠ G) (hk : Kept [G] w1 w2) : w2.frozen? ⟨S, 2, none⟩ = false := (h.sk.kept hk (by simpa using hSG)).free 2

/-- nothing is left: the source's own error -/
theorem sk_end {a : Option Addr} {cp : Nat} (n : Nat) (hsl : src.length = N) (hL : LookedAt w1 R S G (.slice (some ⟨Bs, 0, none⟩) N cs) sv ea N B1 (.slice a 0 cp) (err ea) N i c1 []) (hr : rem = [] ++ src.drop N)
    (hG : Blk w1 G gc 5) (hgl : gc.length = lp) (hgr : Grew [R, S, G] w w1) (hB1 : B1 ≤ w1.heap.size) (hBB : B ≤ B1) (hf : fr = false → B1 = B) (hcc : c1 ≤ c + 4) :
    SkPost w (w1.drewN n) R S G (.slice (some ⟨Bs, 0, none⟩) N cs) sv ea src N B lp rem c fr (.returned (.tuple #[.int .i64 0, err ea])) := by
  have hd : src.drop N = [] := List.drop_eq_nil_of_le (by omega)
  refine ⟨B1, c1, gc, hB1, hBB, hf, by omega, hG, hgl, hgr.drewN n, .inl ⟨by rw [hr, hd]; rfl, rfl, ?_⟩⟩
  exact ⟨.slice a 0 cp, err ea, N, i, [], ⟨hL.sk, hL.rd, hL.i0, hL.i1, hL.c1, hL.kN, .inl ⟨rfl, a, cp, rfl⟩, hL.endd⟩, by rw [hd]; rfl⟩

/-- nothing is left: the source says so itself -/
theorem sk_end2 {a : Option Addr} {cp : Nat} (hsl : src.length = N) (hL : LookedAt w1 R S G (.slice (some ⟨Bs, 0, none⟩) N cs) sv ea N B1 (.slice a 0 cp) .nilIface N i c1 []) (hr : rem = [] ++ src.drop N)
    (hG : Blk w1 G gc 5) (hgl : gc.length = lp) (hgr : Grew [R, S, G] w w1) (hB1 : B1 ≤ w1.heap.size) (hBB : B ≤ B1) (hf : fr = false → B1 = B) (hcc : c1 ≤ c + 4) (hRS : R ≠ S) (hRG : R ≠ G)
    (hR : Blk w2 R (rdc (.slice (some ⟨Bs, 0, none⟩) N cs) N sv i (err ea) (c1 + 1)) 28) (hK : Kept [R] w1 w2) :
    SkPost w w2 R S G (.slice (some ⟨Bs, 0, none⟩) N cs) sv ea src N B lp rem c fr (.returned (.tuple #[.int .i64 0, err ea])) := by
  have hd : src.drop N = [] := List.drop_eq_nil_of_le (by omega)
  have h1 := hL.i1
  have h2 := hL.c1
  refine ⟨B1, c1 + 1, gc, by rw [hK.size]; exact hB1, hBB, hf, by omega, hG.kept hK (by simpa using Ne.symm hRG), hgl, hgr.kept hK (by simp), .inl ⟨by rw [hr, hd]; rfl, rfl, ?_⟩⟩
  exact ⟨.slice a 0 cp, .nilIface, N, i, [], ⟨hL.sk.kept hK (by simpa using Ne.symm hRS), hR, hL.i0, by omega, by omega, hL.kN, .inl ⟨rfl, a, cp, rfl⟩, .inl rfl⟩, by rw [hd]; rfl⟩

theorem splice_get (gc X : List Value) (j : Nat) (h : j < X.length) : (splice gc 0 X)[j]? = X[j]? := by
  simp only [splice, List.take_zero, List.nil_append]
  rw [List.getElem?_append_left h]

/-- the source gives m bytes -/
theorem sk_some {a : Option Addr} {cp m : Nat} {i2 : Int} (hsl : src.length = N) (hL : LookedAt w1 R S G (.slice (some ⟨Bs, 0, none⟩) N cs) sv ea N B1 (.slice a 0 cp) .nilIface k i c1 []) (hr : rem = [] ++ src.drop k)
    (hgl : gc.length = lp) (hgr : Grew [R, S, G] w w1) (hB1 : B1 ≤ w1.heap.size) (hBB : B ≤ B1) (hf : fr = false → B1 = B) (hcc : c1 ≤ c + 4) (hRS : R ≠ S) (hSG : S ≠ G)
    (hm1 : 1 ≤ m) (hm2 : m ≤ lp) (hm3 : k + m ≤ N) (hi0 : 0 ≤ i2) (hi1 : i2 ≤ c1 + 1)
    (hR : Blk w2 R (rdc (.slice (some ⟨Bs, 0, none⟩) N cs) (k + m) sv i2 (err ea) (c1 + 1)) 28) (hG : Blk w2 G (splice gc 0 (((src.drop k).take m).map (Value.int .u8))) 5) (hK : Kept [R, G] w1 w2) :
    SkPost w w2 R S G (.slice (some ⟨Bs, 0, none⟩) N cs) sv ea src N B lp rem c fr (.returned (.tuple #[.int .i64 (m : Int), .nilIface])) := by
  have h1 := hL.i1
  have h2 := hL.c1
  have hl : (((src.drop k).take m).map (Value.int .u8)).length = m := src_len hsl hm3
  refine ⟨B1, c1 + 1, _, by rw [hK.size]; exact hB1, hBB, hf, by omega, hG, ?_, hgr.kept hK (by simp), .inr ⟨m, hm1, hm2, ?_, rfl, fun j hj => ?_, ?_⟩⟩
  · rw [length_splice _ _ _ (by rw [hl]; omega)]; exact hgl
  · rw [hr]; simp; omega
  · rw [splice_get _ _ _ (by rw [hl]; exact hj), List.getElem?_map, List.getElem?_take, if_pos hj, hr]
    have : j < (src.drop k).length := by simp; omega
    simp only [List.nil_append, List.getD]
    rw [List.getElem?_eq_getElem this]
    rfl
  · exact ⟨.slice a 0 cp, .nilIface, k + m, i2, [], ⟨hL.sk.kept hK (by simp; exact ⟨Ne.symm hRS, hSG⟩), hR, hi0, hi1, by omega, hm3, .inl ⟨rfl, a, cp, rfl⟩, .inl rfl⟩, by rw [hr, List.nil_append, List.nil_append, List.drop_drop]⟩

/-- the head gives n bytes -/
theorem sk_copy {Hd o cp n : Nat} {hc : List Value} {ev hv' : Value} (hL : LookedAt w1 R S G (.slice (some ⟨Bs, 0, none⟩) N cs) sv ea N B1 (.slice (some ⟨Hd, o, none⟩) hs.length cp) ev k i c1 hs) (hr : rem = hs ++ src.drop k)
    (hgl : gc.length = lp) (hgr : Grew [R, S, G] w w1) (hB1 : B1 ≤ w1.heap.size) (hBB : B ≤ B1) (hf : fr = false → B1 = B) (hcc : c1 ≤ c + 4) (hRS : R ≠ S) (hRG : R ≠ G) (hSG : S ≠ G)
    (hn1 : 1 ≤ n) (hn2 : n ≤ lp) (hn3 : n ≤ hs.length) (hHB : Hd < B1) (hHout : Hd ∉ [R, S, G]) (hHb : Blk w1 Hd hc 5) (hHc : ∀ j, j < hs.length → hc[o + j]? = some (.int .u8 (hs.getD j 0)))
    (hG : Blk w2 G (splice gc 0 ((hs.take n).map (Value.int .u8))) 5) (hK : Kept [G] w1 w2) (hcp : hs.length ≤ cp) (hcp3 : cp ≤ 3)
    (hv : hv' = .slice (some ⟨Hd, o + n, none⟩) (hs.length - n) (cp - n) ∨ (n = hs.length ∧ ∃ a c, hv' = .slice a 0 c)) :
    SkPost w (w2.setCell ⟨S, 2, none⟩ hv') R S G (.slice (some ⟨Bs, 0, none⟩) N cs) sv ea src N B lp rem c fr (.returned (.tuple #[.int .i64 (n : Int), .nilIface])) := by
  have hl : ((hs.take n).map (Value.int .u8)).length = n := by simp; omega
  have hS2 : Blk w2 S (skc R true (.slice (some ⟨Hd, o, none⟩) hs.length cp) ev) 33 := hL.sk.kept hK (by simpa using hSG)
  have hR2 : Blk w2 R (rdc (.slice (some ⟨Bs, 0, none⟩) N cs) k sv i (err ea) c1) 28 := hL.rd.kept hK (by simpa using hRG)
  have hout := hHout
  simp at hout
  have hH2 : Blk w2 Hd hc 5 := hHb.kept hK (by simpa using hout.2.2)
  refine ⟨B1, c1, _, by simp [World.setCell]; rw [hK.size]; exact hB1, hBB, hf, by omega, hG.other (by simpa using Ne.symm hSG) _, ?_, (hgr.kept hK (by simp)).kept ((Kept.refl [S] w2).setCell (by simp) _) (by simp), .inr ⟨n, hn1, hn2, ?_, rfl, fun j hj => ?_, ?_⟩⟩
  · rw [length_splice _ _ _ (by rw [hl]; omega)]; exact hgl
  · rw [hr, List.length_append]; omega
  · rw [splice_get _ _ _ (by rw [hl]; exact hj), List.getElem?_map, List.getElem?_take, if_pos hj, hr]
    have h1 : j < hs.length := by omega
    simp only [List.getD]
    rw [List.getElem?_append_left h1, List.getElem?_eq_getElem h1]
    rfl
  · refine ⟨hv', ev, k, i, hs.drop n, ⟨hS2.set 2 _, hR2.other (by simpa using hRS) _, hL.i0, hL.i1, hL.c1, hL.kN, ?_, hL.endd⟩, ?_⟩
    · rcases hv with rfl | ⟨hn, a, c', rfl⟩
      · by_cases hnn : n = hs.length
        · left
          exact ⟨List.drop_eq_nil_of_le (by omega), _, _, by rw [hnn, Nat.sub_self]⟩
        · right
          refine ⟨by simp; omega, Hd, o + n, cp - n, hc, by simp, by simp; omega, by omega, hHB, hHout, hH2.other (by simpa using hout.2.1) _, fun j hj => ?_⟩
          rw [List.length_drop] at hj
          rw [Nat.add_assoc, hHc (n + j) (by omega)]
          simp [List.getD]
      · left
        exact ⟨List.drop_eq_nil_of_le (by omega), a, c', rfl⟩
    · rw [hr, List.drop_append_of_le_length hn3]
end

/-- the world in which io.ReadFull is called: 'looked' is set, the head's block is laid -/
structure Opened (w W1 : World) (R S G : Nat) (bv sv : Value) (ea : Addr) (gc : List Value) : Prop where
  gr : Grew [R, S, G] w W1
  sk : Blk W1 S (skc R true (.slice none 0 0) .nilIface) 33
  rd : Blk W1 R (rdc bv 0 sv 0 (err ea) 0) 28
  hd : Blk W1 w.heap.size [.int .u8 0, .int .u8 0, .int .u8 0] 5
  bf : Blk W1 G gc 5
  sz : W1.heap.size = w.heap.size + 1
  rlt : R < w.heap.size

theorem Blk.alloc {w : World} {B : Nat} {cs : List Value} {t : TypeId} (h : Blk w B cs t) (o : Obj) : Blk (w.alloc o) B cs t := (Below.heap_alloc w o B h.lt).trans h

theorem opened {w : World} {R S G : Nat} {bv sv : Value} {ea : Addr} {gc : List Value} (hF : Fresh w R S bv sv ea) (hG : Blk w G gc 5) (hRS : R ≠ S) (hSG : S ≠ G) :
    Opened w ((w.setCell ⟨S, 1, none⟩ (.bool true)).alloc (.cells #[.int .u8 0, .int .u8 0, .int .u8 0] 5)) R S G bv sv ea gc := by
  have hz : (w.setCell ⟨S, 1, none⟩ (.bool true)).heap.size = w.heap.size := by simp [World.setCell]
  refine ⟨((Grew.refl [R, S, G] w).kept ((Kept.refl [S] w).setCell (by simp) _) (by simp)).alloc _, (hF.1.set 1 _).alloc _, (hF.2.other (by simpa using hRS) _).alloc _, ?_, (hG.other (by simpa using Ne.symm hSG) _).alloc _, by simp, hF.2.lt⟩
  have := heap_alloc_new (w.setCell ⟨S, 1, none⟩ (.bool true)) (.cells #[.int .u8 0, .int .u8 0, .int .u8 0] 5)
  rw [hz] at this
  exact this

/-- the head as a string: the source's first k bytes -/
theorem head_string {W1 w2 : World} {R H N : Nat} {bv sv : Value} {ea : Addr} {src : List Int} {k : Nat} {i' c' : Int} (h : RS W1 w2 R H bv sv ea src [.int .u8 0, .int .u8 0, .int .u8 0] k i' 0 c') (hsl : src.length = N) (hk : k = min 3 N) :
    (convert 22 9 (.slice (some ⟨H, 0, none⟩) k 3)).run Ybad.prog w2 = .ok (.string (strOfNums (src.take k))) w2 := by
  refine run_convert_bytes_arg (P := Ybad.prog) w2 22 5 Ybad.underlying22 Ybad.underlying5 H 0 k 3 (src.take k) (by rw [List.length_take]; omega) (fun i hi => ?_) 9 Ybad.underlying9
  have hl : (srcCells src k).length = k := by simp [srcCells]; omega
  rw [Nat.zero_add, h.hd.cell, splice_get _ _ _ (by rw [hl]; exact hi)]
  have h2 : i < src.length := by omega
  simp [srcCells, List.getD, hi, List.getElem?_eq_getElem h2]

theorem mark_iff {N k : Nat} {src : List Int} (hsb : ∀ z, z ∈ src → 0 ≤ z ∧ z ≤ 255) (hsl : src.length = N) (hk : k = min 3 N) :
    ((strOfNums (src.take k)).toList == [239, 187, 191]) = decide (src.take 3 = [239, 187, 191]) := by
  have e : src.take k = src.take 3 := by
    rcases Nat.lt_or_ge N 3 with h | h
    · rw [List.take_of_length_le (by omega), List.take_of_length_le (by omega)]
    · rw [show k = 3 by omega]
  rw [e]
  have hb : ∀ z, z ∈ src.take 3 → 0 ≤ z ∧ z ≤ 255 := fun z hz => hsb z (List.mem_of_mem_take hz)
  have hl : (src.take 3).length ≤ 3 := by rw [List.length_take]; omega
  generalize src.take 3 = L at hb hl
  rw [Lib.toList_data, strOfNums_data]
  match L, hl, hb with
  | [], _, _ => rfl
  | [a], _, _ => simp
  | [a, b], _, _ => simp
  | [a, b, c], _, hb =>
    have ha := hb a (by simp)
    have hb' := hb b (by simp)
    have hc := hb c (by simp)
    have key : ∀ x : Int, 0 ≤ x → x ≤ 255 → ∀ y : UInt8, (UInt8.ofNat x.toNat = y ↔ x = (y.toNat : Int)) := by
      intro x h0 h1 y
      constructor
      · rintro rfl
        rw [UInt8.toNat_ofNat']
        omega
      · rintro rfl
        simp
    rw [Bool.eq_iff_iff]
    simp only [List.map_cons, List.map_nil, beq_iff_eq, List.cons.injEq, and_true, decide_eq_true_eq]
    rw [key a ha.1 ha.2, key b hb'.1 hb'.2, key c hc.1 hc.2]
    rfl

theorem mark_yes {N k : Nat} {src : List Int} (h : true = decide (src.take 3 = [239, 187, 191])) (hsl : src.length = N) (hk : k = min 3 N) : [] ++ src.drop k = wantOf src := by
  have h' := of_decide_eq_true h.symm
  have : 3 ≤ N := by
    have := congrArg List.length h'
    rw [List.length_take] at this
    simp at this
    omega
  unfold wantOf
  rw [if_pos h', show k = 3 by omega]
  rfl
theorem mark_no {k : Nat} {src : List Int} (h : false = decide (src.take 3 = [239, 187, 191])) : src.take k ++ src.drop k = wantOf src := by
  unfold wantOf
  rw [if_neg (of_decide_eq_false h.symm), List.take_append_drop]

theorem head_is {w W1 w2 : World} {R S G N : Nat} {bv sv : Value} {ea : Addr} {src : List Int} {k : Nat} {i' c' : Int} {gc : List Value} {u : Value}
    (h : RS W1 w2 R w.heap.size bv sv ea src [.int .u8 0, .int .u8 0, .int .u8 0] k i' 0 c') (hsl : src.length = N) (hk : k = min 3 N) (hW : Opened w W1 R S G bv sv ea gc) (hS : S < w.heap.size) (hG : G < w.heap.size) :
    HeadIs (w2.setCell ⟨S, 2, none⟩ u) R S G (w.heap.size + 1) (.slice (some ⟨w.heap.size, 0, none⟩) k 3) (src.take k) := by
  have hl : (src.take k).length = k := by rw [List.length_take]; omega
  by_cases h0 : k = 0
  · subst h0
    exact .inl ⟨rfl, _, _, rfl⟩
  · refine .inr ⟨by omega, w.heap.size, 0, 3, _, by rw [hl], by omega, by omega, by omega, ?_, h.hd.other (by simp; omega) _, fun j hj => ?_⟩
    · have := hW.rlt
      simp
      omega
    · rw [hl] at hj
      have hl2 : (srcCells src k).length = k := by simp [srcCells]; omega
      rw [Nat.zero_add, splice_get _ _ _ (by rw [hl2]; exact hj)]
      have h2 : j < src.length := by omega
      simp [srcCells, List.getD, hj, List.getElem?_eq_getElem h2]

theorem env_S {w w2 w3 : World} {R S G H Bs N cs sl : Nat} {sa : Option Addr} {aE aU ea : Addr} {src : List Int} (h : Env w2 Bs N cs sl sa aE aU ea src [R, H]) (h0 : Env w Bs N cs sl sa aE aU ea src [R, S, G]) (hk : Kept [S] w2 w3) :
    Env w3 Bs N cs sl sa aE aU ea src [R, H] := by
  have o1 := h0.srcOut
  have o2 := h0.out0
  have o3 := h0.out1
  have o4 := h0.oE
  have o5 := h0.oU
  have o6 := h0.oe
  simp at o1 o2 o3 o4 o5 o6
  refine ⟨⟨h.src.1, fun j hj => by rw [hk.cell (by simp; exact o1.2.1)]; exact h.src.2 j hj⟩, h.srcOut, ⟨h.sizes.1, fun hp => ?_⟩, h.N1, h.N2, by rw [hk.cell (by simp; exact o2.2.1)]; exact h.gE, by rw [hk.cell (by simp; exact o3.2.1)]; exact h.gU,
    h.out0, h.out1, h.ne, by rw [hk.block _ (by simp; exact o4.2.1)]; exact h.bE, by rw [hk.block _ (by simp; exact o5.2.1)]; exact h.bU, by rw [hk.block _ (by simp; exact o6.2.1)]; exact h.be, h.oE, h.oU, h.oe, h.eU⟩
  obtain ⟨b, off, e, hb, hz⟩ := h.sizes.2 hp
  obtain ⟨b', off', e', hb', _⟩ := h0.sizes.2 hp
  have ebb : b = b' := by rw [e] at e'; simpa using congrArg (fun o => o.map Addr.block) e'
  subst ebb
  simp at hb'
  refine ⟨b, off, e, hb, fun j hj => ?_⟩
  obtain ⟨z, z0, z1, hc⟩ := hz j hj
  exact ⟨z, z0, z1, by rw [hk.cell (by simp; exact hb'.2.1)]; exact hc⟩

theorem look_done {w W1 w2 w3 : World} {R S G N B k : Nat} {bv sv hv : Value} {ea : Addr} {src rem hs : List Int} {i' c c' : Int} {gc : List Value}
    (hW : Opened w W1 R S G bv sv ea gc) (h : RS W1 w2 R w.heap.size bv sv ea src [.int .u8 0, .int .u8 0, .int .u8 0] k i' 0 c') (hkN : k ≤ N) (h1 : Blk w3 S (skc R true hv .nilIface) 33) (h2 : HeadIs w3 R S G (w.heap.size + 1) hv hs) (h3 : hs ++ src.drop k = wantOf src) (h4 : Kept [S] w2 w3)
    (hr : rem = wantOf src) (hc : c = 0) (hcl : 0 + 1 ≤ c') (hch : c' ≤ 0 + 4) (hB : B ≤ w.heap.size) (hRS : R ≠ S) (hRG : R ≠ G) (hSG : S ≠ G) (hG : G < w.heap.size) (v : Value) (hv' : v = .nilIface ∨ (v = err ea ∧ k = N)) :
    Mid w (w3.setCell ⟨S, 3, none⟩ v) R S G bv sv ea src N B rem c true gc := by
  have k3 : Kept [S] w3 (w3.setCell ⟨S, 3, none⟩ v) := (Kept.refl [S] w3).setCell (by simp) _
  have hz : (w3.setCell ⟨S, 3, none⟩ v).heap.size = w.heap.size + 1 := by rw [k3.size, h4.size, h.kp.size, hW.sz]
  have rd3 : Blk w3 R (rdc bv k sv i' (err ea) c') 28 := h.rd.kept h4 (by simpa using hRS)
  have g2 : Blk w2 G gc 5 := hW.bf.kept h.kp (by simp; exact ⟨Ne.symm hRG, by omega⟩)
  refine ⟨w.heap.size + 1, c', ⟨hv, v, k, i', hs, ⟨h1.set 3 _, rd3.kept k3 (by simpa using hRS), h.i0, h.i1, by omega, hkN, h2.kept k3 (by simp), hv'⟩, by rw [hr, h3]⟩, by omega, by omega, (fun hx => by cases hx), by omega, ?_, (g2.kept h4 (by simpa using Ne.symm hSG)).kept k3 (by simpa using Ne.symm hSG)⟩
  refine ((hW.gr.kept h.kp ?_).kept h4 (by simp)).kept k3 (by simp)
  intro x hx
  simp at hx
  rcases hx with rfl | rfl
  · left; simp
  · right; exact Nat.le_refl _

set_option maxRecDepth 100000 in
set_option maxHeartbeats 1000000 in
theorem skip_read (R S G N Bs cs sl sc lp B : Nat) (sa : Option Addr) (aE aU ea : Addr) (c : Int) (src : List Int) (rem : List Int) (gc : List Value) (fr : Bool) (w : World)
    (hst : (fr = true ∧ Fresh w R S (.slice (some ⟨Bs, 0, none⟩) N cs) (.slice sa sl sc) ea ∧ rem = wantOf src ∧ c = 0) ∨ (fr = false ∧ Looked w R S G (.slice (some ⟨Bs, 0, none⟩) N cs) (.slice sa sl sc) ea src N B rem c))
    (hG : Blk w G gc 5) (hgl : gc.length = lp) (hlp1 : 1 ≤ lp) (hlp5 : lp ≤ 5) (hRS : R ≠ S) (hRG : R ≠ G) (hSG : S ≠ G) (hE : Env w Bs N cs sl sa aE aU ea src [R, S, G]) (hBs : Bs < w.heap.size) (hB : B ≤ w.heap.size) (hc1 : c ≤ 50000) (hsb : ∀ z, z ∈ src → 0 ≤ z ∧ z ≤ 255) :
    Calls Ybad.prog 5 #[.pointer (some ⟨S, 0, none⟩), .slice (some ⟨G, 0, none⟩) lp lp] w fun e w' => SkPost w w' R S G (.slice (some ⟨Bs, 0, none⟩) N cs) (.slice sa sl sc) ea src N B lp rem c fr e := by
  have HST := hst
  have HE : Hid (Env w Bs N cs sl sa aE aU ea src [R, S, G]) := hE
  have HGL : Hid (gc.length = lp) := hgl
  have hs0 : ∃ lk hv ev, Blk w S (skc R lk hv ev) 33 ∧ lk = !fr := by
    rcases hst with ⟨rfl, h, _⟩ | ⟨rfl, hv, ev, _, _, _, h, _⟩
    · exact ⟨_, _, _, h.1, rfl⟩
    · exact ⟨_, _, _, h.sk, rfl⟩
  obtain ⟨lk, hv0, ev0, hS0, hlk⟩ := hs0
  have s1 : w.cell? ⟨S, 1, none⟩ = some (.bool lk) := hS0.cell 1
  have HLK : Hid (lk = !fr) := hlk
  have HST' : Hid ((fr = true ∧ Fresh w R S (.slice (some ⟨Bs, 0, none⟩) N cs) (.slice sa sl sc) ea ∧ rem = wantOf src ∧ c = 0) ∨ (fr = false ∧ Looked w R S G (.slice (some ⟨Bs, 0, none⟩) N cs) (.slice sa sl sc) ea src N B rem c)) := hst
  clear HST hst hE hgl hlk hS0
  go_enter Ybad.func5, Ybad.ntmps5
  go_upto_if 14 with fail
  go_cut [] (fun wx => Mid w wx R S G (.slice (some ⟨Bs, 0, none⟩) N cs) (.slice sa sl sc) ea src N B rem c fr gc)
  case first =>
    rcases HST'.out with ⟨hfr, hF, hrem, hc00⟩ | ⟨hfr, hL⟩
    · subst hfr
      obtain rfl : lk = false := HLK.out
      have HF : Hid (Fresh w R S (.slice (some ⟨Bs, 0, none⟩) N cs) (.slice sa sl sc) ea) := hF
      have f1 : w.frozen? ⟨S, 1, none⟩ = false := hF.1.free 1
      have s0 : w.cell? ⟨S, 0, none⟩ = some (.iface 26 (.pointer (some ⟨R, 0, none⟩))) := hF.1.cell 0
      have hmk : ∀ W : World, (Instr.makeSlice 22 (.int .i64 3) (.int .i64 3)).run Ybad.prog W = .ok (.slice (some ⟨W.heap.size, 0, none⟩) 3 3) (W.alloc (.cells #[.int .u8 0, .int .u8 0, .int .u8 0] 5)) := fun W => by kernel_rfl
      have hSlt : S < w.heap.size := hF.1.lt
      clear hF HST' HLK
      go_wp2_with fail
      obtain ⟨W1, hW1⟩ : ∃ W1, W1 = (w.setCell ⟨S, 1, none⟩ (.bool true)).alloc (.cells #[.int .u8 0, .int .u8 0, .int .u8 0] 5) := ⟨_, rfl⟩
      rw [← hW1]
      have HW : Hid (Opened w W1 R S G (.slice (some ⟨Bs, 0, none⟩) N cs) (.slice sa sl sc) ea gc) := by rw [hW1]; exact opened HF.out hG hRS hSG
      have HE1 : Hid (Env W1 Bs N cs sl sa aE aU ea src [R, w.heap.size]) := HE.out.grew HW.out.gr hBs (by intro x hx; simp at hx; rcases hx with rfl | rfl <;> simp)
      clear hW1 hmk s0 s1 f1
      refine (full_calls R N Bs cs sl sc w.heap.size sa aE aU ea 0 src [.int .u8 0, .int .u8 0, .int .u8 0] W1 HW.out.rd HW.out.hd (by have := HW.out.rlt; omega) HE1.out rfl (by omega) (by omega)).mono ?_
      rintro e w2 ⟨k, i', c', hk, rfl, hrs, hcl, hch⟩
      have HRS : Hid (RS W1 w2 R w.heap.size (.slice (some ⟨Bs, 0, none⟩) N cs) (.slice sa sl sc) ea src [.int .u8 0, .int .u8 0, .int .u8 0] k i' 0 c') := hrs
      have HK : Hid (k = min 3 N) := hk
      have hk3 : (k : Int) ≤ 3 := by omega
      clear hrs hk
      have HS2 : Hid (Blk w2 S (skc R true (.slice none 0 0) .nilIface) 33) := HW.out.sk.kept HRS.out.kp (by simp; exact ⟨Ne.symm hRS, by omega⟩)
      have t2 : w2.cell? ⟨S, 2, none⟩ = some (.slice none 0 0) := HS2.out.cell 2
      have t3 : w2.cell? ⟨S, 3, none⟩ = some .nilIface := HS2.out.cell 3
      have g2 : w2.frozen? ⟨S, 2, none⟩ = false := HS2.out.free 2
      have g3 : w2.frozen? ⟨S, 3, none⟩ = false := HS2.out.free 3
      have hcv := head_string HRS.out HE.out.src.1 HK.out
      obtain ⟨mk, hmk⟩ : ∃ mk, mk = ((strOfNums (src.take k)).toList == [239, 187, 191]) := ⟨_, rfl⟩
      have HMK : Hid (mk = decide (src.take 3 = [239, 187, 191])) := by show _ = _; rw [hmk]; exact mark_iff hsb HE.out.src.1 HK.out
      have HREM : Hid (rem = wantOf src) := hrem
      have HC0 : Hid (c = 0) := hc00
      clear hrem hc00
      go_upto_if 32 with fail
      rw [← hmk]
      clear hmk hcv
      go_cut [] (fun wx => ∃ hv hs, Blk wx S (skc R true hv .nilIface) 33 ∧ HeadIs wx R S G (w.heap.size + 1) hv hs ∧ hs ++ src.drop k = wantOf src ∧ Kept [S] w2 wx)
      case first =>
        cases mk with
        | true =>
          go_wp2_with fail
          go_meet
          case rel => exact ⟨_, [], HS2.out, HeadIs.none _ _ _ _ _ _ _, mark_yes HMK.out HE.out.src.1 HK.out, Kept.refl _ _⟩
        | false =>
          go_wp2_with fail
          go_meet
          case rel => exact ⟨_, src.take k, HS2.out.set 2 _, head_is HRS.out HE.out.src.1 HK.out HW.out hSlt hG.lt, mark_no HMK.out, (Kept.refl _ _).setCell (by simp) _⟩
      case rest =>
        obtain ⟨hv, hs, hb1, hb2, hb3, hb4⟩ := hcut
        obtain ⟨w3, hw3⟩ : ∃ w3, w3 = wc := ⟨_, rfl⟩
        rw [← hw3] at hb1 hb2 hb4 ⊢
        clear hw3 wc t2 t3 g2 g3
        have t3 : w3.cell? ⟨S, 3, none⟩ = some .nilIface := hb1.cell 3
        have g3 : w3.frozen? ⟨S, 3, none⟩ = false := hb1.free 3
        have HE2 : Hid (Env w3 Bs N cs sl sa aE aU ea src [R, w.heap.size]) := env_S (HE1.out.kept HRS.out.kp) HE.out hb4
        have gE : w3.cell? ⟨0, 0, none⟩ = some (err aE) := HE2.out.gE
        have gU : w3.cell? ⟨1, 0, none⟩ = some (err aU) := HE2.out.gU
        have HB1 : Hid (Blk w3 S (skc R true hv .nilIface) 33) := hb1
        have HB2 : Hid (HeadIs w3 R S G (w.heap.size + 1) hv hs) := hb2
        have HB3 : Hid (hs ++ src.drop k = wantOf src) := hb3
        have HB4 : Hid (Kept [S] w2 w3) := hb4
        clear hb1 hb2 hb3 hb4
        have FIN : Hid (∀ v, (v = .nilIface ∨ (v = err ea ∧ k = N)) → Mid w (w3.setCell ⟨S, 3, none⟩ v) R S G (.slice (some ⟨Bs, 0, none⟩) N cs) (.slice sa sl sc) ea src N B rem c true gc) := by
          intro v hv'
          exact look_done HW.out HRS.out (by have := HK.out; omega) HB1.out HB2.out HB3.out HB4.out HREM.out HC0.out hcl hch hB hRS hRG hSG hG.lt v hv'
        by_cases hN3 : 3 ≤ N
        · have hF : fullErr N aE aU ea = .nilIface := by unfold fullErr; rw [if_pos hN3]
          have heq := run_eql_iface_nil_left (P := Ybad.prog) w3 38 (.pointer (some aU)) Ybad.underlying24
          go_wp2_with fail
          go_meet
          case rel => exact FIN.out _ (.inl rfl)
        · have hkN : k = N := by have := HK.out; omega
          by_cases hee : 0 < N ∧ ea = aE
          · obtain ⟨hN0, rfl⟩ := hee
            have hF : fullErr N ea aU ea = err aU := by unfold fullErr; rw [if_neg hN3, if_pos ⟨hN0, rfl⟩]
            have heq := eql_same aU w3
            go_wp2_with fail
            go_meet
            case rel => exact FIN.out _ (.inr ⟨rfl, hkN⟩)
          · have hF : fullErr N aE aU ea = err ea := by unfold fullErr; rw [if_neg hN3, if_neg hee]
            have heq : (binOp .eql 24 (err ea) (err aU)).run Ybad.prog w3 = .ok (.bool false) w3 := by
              obtain ⟨c1, t1, h1⟩ := HE2.out.be
              obtain ⟨c2, t2, h2⟩ := HE2.out.bU
              exact eql_other w3 HE2.out.eU h1 h2
            go_wp2_with fail
            go_meet
            case rel => exact FIN.out _ (.inr ⟨rfl, hkN⟩)
    · subst hfr
      obtain rfl : lk = true := HLK.out
      go_wp2_with fail
      go_meet
      case rel => exact ⟨B, c, hL, hB, Nat.le_refl _, fun _ => rfl, by omega, Grew.refl _ _, hG⟩
  case rest =>
    obtain ⟨B1, c1, hlook, hB1, hBB, hfrB, hcc, hgr, hG1⟩ := hcut
    obtain ⟨w1, hw1⟩ : ∃ w1, w1 = wc := ⟨_, rfl⟩
    rw [← hw1] at hlook hB1 hgr hG1 ⊢
    clear hw1 wc s1 HST' HLK
    obtain ⟨hv, ev, k, i, hs, hL, hrem⟩ := hlook
    have HR : Hid (rem = hs ++ src.drop k) := hrem
    have HG1 : Hid (Blk w1 G gc 5) := hG1
    have HGR : Hid (Grew [R, S, G] w w1) := hgr
    have s0 : w1.cell? ⟨S, 0, none⟩ = some (.iface 26 (.pointer (some ⟨R, 0, none⟩))) := hL.sk.cell 0
    have s2 : w1.cell? ⟨S, 2, none⟩ = some hv := hL.sk.cell 2
    have s3 : w1.cell? ⟨S, 3, none⟩ = some ev := hL.sk.cell 3
    have f2 : w1.frozen? ⟨S, 2, none⟩ = false := hL.sk.free 2
    have HL : Hid (LookedAt w1 R S G (.slice (some ⟨Bs, 0, none⟩) N cs) (.slice sa sl sc) ea N B1 hv ev k i c1 hs) := hL
    have hhead := hL.head
    have hend := hL.endd
    clear hL hrem hG1 hgr
    rcases hhead with ⟨rfl, a, cp, rfl⟩ | ⟨hpos, Hd, o, cp, hc, rfl, hcp, hcp3, hHB, hHout, hHb, hHc⟩
    · have hsl : src.length = N := HE.out.src.1
      rcases hend with rfl | ⟨rfl, rfl⟩
      · have hmr := method_read
        have hkN : k ≤ N := HL.out.kN
        have hi0 := HL.out.i0
        have hi1 := HL.out.i1
        have HE1 : Hid (Env w1 Bs N cs sl sa aE aU ea src [R, S, G]) := HE.out.grew HGR.out hBs (fun x hx => .inl hx)
        by_cases hkN' : k < N
        · go_wp2_with (go_at_call 24; refine (read_some R N Bs cs k sl sc G 0 lp lp sa (err ea) i c1 src gc _ (by exact HL.out.rd) (by exact HG1.out) (Ne.symm hRG) (by exact HE1.out.src) (by have := HE1.out.srcOut; simp at this; exact this.1) (by exact sizes_sub HE1.out.sizes) HE1.out.N1 HE1.out.N2 hkN' (by omega) (by omega) (by rw [HGL.out]; omega) (by omega) hi0 hi1).mono ?_; rintro e w2 ⟨m, i2, q1, q2, q3, q4, q5, rfl, q6, q7, q8⟩)
          go_ret2
          exact sk_some hsl HL.out HR.out HGL.out HGR.out hB1 hBB hfrB hcc hRS hSG q1 q2 q3 q4 q5 q6 q7 q8
        · obtain rfl : k = N := by omega
          go_wp2_with (go_at_call 24; refine (read_end R k Bs cs _ (err ea) i c1 _ _ _ _ (by exact HL.out.rd) (by omega) (by omega)).mono ?_; rintro e w2 ⟨rfl, q6, q8⟩)
          go_ret2
          exact sk_end2 hsl HL.out HR.out HG1.out HGL.out HGR.out hB1 hBB hfrB hcc hRS hRG q6 q8
      · go_wp2_with fail
        go_quiet (fail)
        go_wp2_with fail
        go_ret2
        exact sk_end _ hsl HL.out HR.out HG1.out HGL.out HGR.out hB1 hBB hfrB hcc
    · have hpos' : (0 : Int) < (hs.length : Int) := by omega
      obtain ⟨n, hn⟩ : ∃ n, n = min lp hs.length := ⟨_, rfl⟩
      have hn1 : 1 ≤ n := by omega
      have hn2 : n ≤ lp := by omega
      have hn3 : n ≤ hs.length := by omega
      have hmin : Hid (n = Nat.min hs.length lp) := by show n = Nat.min hs.length lp; rw [hn, Nat.min_comm]
      have hn4 : n = lp ∨ n = hs.length := by omega
      clear hn
      obtain ⟨X, hX⟩ : ∃ X, X = (hs.take n).map (Value.int .u8) := ⟨_, rfl⟩
      have HX : Hid (X = (hs.take n).map (Value.int .u8)) := hX
      have hXl : X.length = n := by rw [hX]; simp; omega
      have hX1 : Hid (∀ v ∈ X, v.oneCell' = true) := by rw [hX]; exact ints_oneCell _ _
      have hXs : Hid (∀ t v, X[t]? = some v → w1.cell? ((⟨Hd, o, none⟩ : Addr).add t) = some v) := by rw [hX]; exact head_cells hHb hHc hn3
      have HHb : Hid (Blk w1 Hd hc 5) := hHb
      have HHc : Hid (∀ j, j < hs.length → hc[o + j]? = some (.int .u8 (hs.getD j 0))) := hHc
      clear hX hHb hHc hend
      have hnc : (n : Int) ≤ (cp : Int) := by omega
      have hnl : (n : Int) ≤ (hs.length : Int) := by omega
      by_cases hcn : cp = n
      · subst hcn
        go_wp2_with (refine wpList_copy_exact rfl (.tmp 53) (.tmp 57) 22 22 rfl 5 Ybad.underlying22 Ybad.size5 G 0 lp lp ⟨Hd, o, none⟩ hs.length cp rfl rfl gc 5 HG1.out X (by rw [hXl, hmin.out]) hXs.out (by rw [hXl, HGL.out]; omega) hX1.out ?_; intro w2 HG2 HK2; have t2 := sk_cell HL.out hSG HK2.out; have g2 := sk_free HL.out hSG HK2.out)
        go_ret2
        exact sk_copy HL.out HR.out HGL.out HGR.out hB1 hBB hfrB hcc hRS hRG hSG hn1 hn2 hn3 hHB hHout HHb.out HHc.out (by have := HG2.out; rw [HX.out] at this; exact this) HK2.out hcp hcp3 (.inr ⟨by omega, _, _, rfl⟩)
      · have hcn' : ¬ (cp : Int) = (n : Int) := by omega
        go_wp2_with (refine wpList_copy_exact rfl (.tmp 53) (.tmp 57) 22 22 rfl 5 Ybad.underlying22 Ybad.size5 G 0 lp lp ⟨Hd, o, none⟩ hs.length cp rfl rfl gc 5 HG1.out X (by rw [hXl, hmin.out]) hXs.out (by rw [hXl, HGL.out]; omega) hX1.out ?_; intro w2 HG2 HK2; have t2 := sk_cell HL.out hSG HK2.out; have g2 := sk_free HL.out hSG HK2.out)
        go_ret2
        exact sk_copy HL.out HR.out HGL.out HGR.out hB1 hBB hfrB hcc hRS hRG hSG hn1 hn2 hn3 hHB hHout HHb.out HHc.out (by have := HG2.out; rw [HX.out] at this; exact this) HK2.out hcp hcp3 (.inl rfl)
end Go.Proofs.YbulkcgzuDoor
