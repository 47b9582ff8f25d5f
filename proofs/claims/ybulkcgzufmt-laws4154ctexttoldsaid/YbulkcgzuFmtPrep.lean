import Derived.Test.YbulkcgzuFmtText
import Derived.Test.YbulkcgzuFmtPlain
import Derived.Maps.Own
import Derived.Maps.OwnSet
/-! What the walk of 'LawS4154CText' (function 5) asks of worlds and lists. -/
namespace Go.Proofs.YbulkcgzuFmt
open Go.RowKit Go.Extern.Stop Go.Stop Go.Extern Go.WideMaps Go.Maps

theorem Ybaf.info9 : (Ybaf.prog.info? 9).map (fun i => (i.zero, i.size, i.bytes)) = some (some (.string ⟨#[]⟩), 1, 16) := by kernel_rfl
theorem law : Keyed Ybaf.prog 9 := string_keyed Ybaf.underlying9
theorem zero3 (w : World) : (zeroValue 3).run Ybaf.prog w = .ok (.int .i64 0) w := by kernel_rfl

theorem make_map (n : Nat) (W : World) : (Instr.makeMap 30 (some (.int .i64 (n : Int)))).run Ybaf.prog W = .ok (.map (some W.heap.size)) (W.alloc (.map #[] 0)) := by
  simp [Instr.makeMap, run_underlying Ybaf.underlying30, asInt]
  rfl

def runeB (j : Nat) : ByteArray := ⟨#[UInt8.ofNat (97 + j)]⟩
abbrev nameB (j : Nat) : ByteArray := ⟨#[99, 111, 108]⟩ ++ runeB j
theorem rune_str (c : Nat) (h : c < 6) (W : World) : (convert 21 9 (.int .i32 (97 + (c : Int)))).run Ybaf.prog W = .ok (.string (runeB c)) W := by
  obtain rfl | rfl | rfl | rfl | rfl | rfl : c = 0 ∨ c = 1 ∨ c = 2 ∨ c = 3 ∨ c = 4 ∨ c = 5 := by omega
  all_goals kernel_rfl
def keyL (j : Nat) : Lit := .string (nameB j).data.toList
def Cm : Nat → DataW Unit
  | 0 => .map []
  | c + 1 => (Cm c).put (keyL c) (.lit (.int .i64 (c : Int)))

theorem name_size (j : Nat) : (nameB j).size ≤ maxLen := by rw [ByteArray.size_append]; show 3 + 1 ≤ maxLen; unfold maxLen; omega
theorem key_name (j : Nat) : keyOf Ybaf.prog 9 (.string (nameB j)) = some (keyL j) := keyOf_string_mk Ybaf.underlying9 (by rw [ByteArray.size_append]; show 3 + 1 ≤ maxLen; unfold maxLen; omega)

/-- the second loop: c names are laid, and known to the map -/
structure NS (w wr : World) (O MP ncol c : Nat) : Prop where
  low : Below O w wr
  nm : ∃ nc, Blk wr O nc 9 ∧ nc.length = ncol ∧ ∀ j, j < c → nc[j]? = some (.string (nameB j))
  mp : wr.ownsMap (H := Unit) Ybaf.prog 9 (plainElem Ybaf.prog 3) MP c (Cm c)
  ord : O < MP

theorem own_blk {w : World} {B g n e : Nat} {xs : List Value} (h : w.ownsRow B e 1 (.slice (some ⟨g, 0, none⟩) n n) n xs) : Blk w g xs e ∧ xs.length = n := by
  have hl := h.1
  rcases h.2 with ⟨h', _⟩ | ⟨g', cap', cur, h', _, hg, _, _, hs, ht⟩
  · simp at h'
  · simp only [Value.slice.injEq, Option.some.injEq, Addr.mk.injEq, and_true, true_and] at h'
    obtain ⟨rfl, rfl⟩ := h'
    have : cur.toList = xs := by rw [← ht, List.take_of_length_le (by simp; omega)]
    exact ⟨by unfold Blk; rw [← this]; simpa using hg, by omega⟩

theorem NS.start {w w1 : World} {O ncol : Nat} {xs : List Value} (hO : O = w.heap.size) (ho : w1.ownsRow O 9 1 (.slice (some ⟨w.heap.size, 0, none⟩) ncol ncol) ncol xs) (hg : w.grownBy w1 none) :
    NS w (w1.alloc (.map #[] 0)) O w1.heap.size ncol 0 := by
  rw [← hO] at ho
  obtain ⟨hb, hl⟩ := own_blk ho
  have := hg.size
  refine ⟨((Below.refl _ _).grown hg (by omega) (by simp)).alloc (by omega) _, ⟨xs, hb.alloc _, hl, fun j hj => absurd hj (by omega)⟩, World.ownsMap_made _ _ _ _, hb.lt⟩

theorem NS.look {w wr : World} {O MP ncol c : Nat} (h : NS w wr O MP ncol c) (hc : c < ncol) : (∃ v, wr.cell? ⟨O, c, none⟩ = some v) ∧ wr.frozen? ⟨O, c, none⟩ = false := by
  obtain ⟨nc, hb, hl, _⟩ := h.nm
  exact ⟨⟨_, by rw [hb.cell, List.getElem?_eq_getElem (by omega)]⟩, hb.free c⟩

theorem NS.name {w wr : World} {O MP ncol c : Nat} (h : NS w wr O MP ncol c) (hc : c < ncol) :
    Below O w (wr.setCell ⟨O, c, none⟩ (.string (nameB c))) ∧ (∃ nc, Blk (wr.setCell ⟨O, c, none⟩ (.string (nameB c))) O nc 9 ∧ nc.length = ncol ∧ ∀ j, j < c + 1 → nc[j]? = some (.string (nameB j))) ∧
    (wr.setCell ⟨O, c, none⟩ (.string (nameB c))).ownsMap (H := Unit) Ybaf.prog 9 (plainElem Ybaf.prog 3) MP c (Cm c) := by
  obtain ⟨nc, hb, hl, hn⟩ := h.nm
  have ho := h.ord
  refine ⟨h.low.setCell (by simp) _, ⟨_, hb.set c _, by simpa using hl, fun j hj => ?_⟩, h.mp.setCell (by simp; omega) _⟩
  by_cases e : j = c
  · subst e
    rw [List.getElem?_set_self (by omega)]
  · rw [List.getElem?_set_ne (by omega)]
    exact hn j (by omega)

theorem NS.next {w wr w2 : World} {O MP ncol c : Nat} (ho : O < MP) (h : Below O w wr) (hn : ∃ nc, Blk wr O nc 9 ∧ nc.length = ncol ∧ ∀ j, j < c + 1 → nc[j]? = some (.string (nameB j)))
    (hm : w2.ownsMap (H := Unit) Ybaf.prog 9 (plainElem Ybaf.prog 3) MP (c + 1) ((Cm c).put (keyL c) (.lit (.int .i64 (c : Int))))) (hg : wr.grownBy w2 (some MP)) : NS w w2 O MP ncol (c + 1) := by
  obtain ⟨nc, hb, hl, hx⟩ := hn
  exact ⟨h.grown hg (by have := hb.lt; omega) (fun k hk => by have := Option.some.inj hk; omega), ⟨nc, hb.grown hg (by simp; omega), hl, hx⟩, hm, ho⟩

structure SCame (w : World) (a : Option Addr) (len : Nat) (ss : List ByteArray) : Prop where
  cell : 0 < len → ∃ b off, a = some ⟨b, off, none⟩ ∧ ∀ j, j < len → w.cell? ⟨b, off + j, none⟩ = some (.string (ss.getD j ByteArray.empty))

theorem SCame.at {w w' : World} {a : Option Addr} {len j : Nat} {ss : List ByteArray} (h : SCame w a len ss) (hb : Below w.heap.size w w') (hj : j < len) : ∃ b off, a = some ⟨b, off, none⟩ ∧ w'.cell? ⟨b, off + j, none⟩ = some (.string (ss.getD j ByteArray.empty)) := by
  obtain ⟨b, off, e, hc⟩ := h.cell (by omega)
  exact ⟨b, off, e, by rw [hb.cell (World.block_lt_of_cell? w _ (hc j hj))]; exact hc j hj⟩

theorem Ybaf.info3 : (Ybaf.prog.info? 3).map (fun i => (i.zero, i.size, i.bytes)) = some (some (.int .i64 0), 1, 8) := by kernel_rfl
theorem Ybaf.info4 : (Ybaf.prog.info? 4).map (fun i => (i.zero, i.size, i.bytes)) = some (some (.bool false), 1, 1) := by kernel_rfl
theorem Ybaf.info5 : (Ybaf.prog.info? 5).map (fun i => (i.zero, i.size, i.bytes)) = some (some (.int .u8 0), 1, 1) := by kernel_rfl

/-- the cell that the law lays at place k -/
def cellS (ss : List ByteArray) (len : Nat) (k : Nat) : ByteArray := if k < len then ss.getD k ByteArray.empty else ⟨#[]⟩

theorem cellS_size {ss : List ByteArray} {len N : Nat} (h : ∀ j, j < N → j < len → (ss.getD j ByteArray.empty).size ≤ 4096) : ∀ j, j < N → (cellS ss len j).size ≤ 4096 := by
  intro j hj
  unfold cellS
  split
  · exact h j hj (by assumption)
  · exact Nat.zero_le _
theorem size_alloc1 (w : World) (o : Obj) : (w.alloc o).heap.size = w.heap.size + 1 := by simp

/-- the places of the pieces' ends -/
abbrev endsV (S : Nat → ByteArray) (k : Nat) : List Value := (List.range k).map fun j => .int .i64 ((pos S j + (S j).size : Nat) : Int)

/-- the state of the two loops that lay the cells: k cells are laid, r rows begun -/
structure LS (w wr : World) (O MP HD ST EN RD BF ncol nrow N : Nat) (line : Int) (S : Nat → ByteArray) (us : Nat → Bool) (k r : Nat) (tv : Value) : Prop where
  low : Below O w wr
  nm : ∃ nc, Blk wr O nc 9 ∧ nc.length = ncol ∧ ∀ j, j < ncol → nc[j]? = some (.string (nameB j))
  mp : wr.ownsMap (H := Unit) Ybaf.prog 9 (plainElem Ybaf.prog 3) MP ncol (Cm ncol)
  hd : Blk wr HD [.int .i64 line, .slice (some ⟨O, 0, none⟩) ncol ncol, .map (some MP)] 33
  st : ∃ sc, Blk wr ST sc 3 ∧ sc.length = nrow ∧ ∀ q, q < r → sc[q]? = some (.int .i64 (pos S (q * ncol) : Int))
  en : wr.ownsRow EN 3 1 (.slice (some ⟨EN, 0, none⟩) k N) k (endsV S k)
  rd : ∃ rc, Blk wr RD rc 4 ∧ rc.length = N ∧ ∀ j, j < k → rc[j]? = some (.bool (us j))
  bf : ∃ bc, Blk wr BF bc 4 ∧ bc.length = N ∧ ∀ j, j < k → bc[j]? = some (.bool (us j))
  tx : wr.ownsRow (BF + 1) 5 1 tv (pos S k) ((txt S k).map (Value.int .u8))
  ord : O < MP ∧ MP < HD ∧ HD < ST ∧ ST < EN ∧ EN < RD ∧ RD < BF ∧ BF + 1 ≤ wr.heap.size

theorem LS.start {w w2 w4 w5 w6 w7 : World} {O MP HD ST EN RD BF ncol nrow N : Nat} {line : Int} {S : Nat → ByteArray} {us : Nat → Bool} {x4 x6 x7 : List Value} (h : NS w w2 O MP ncol ncol) (hHD : HD = w2.heap.size) (hST : ST = HD + 1) (hEN : EN = w4.heap.size) (hRD : RD = w5.heap.size) (hBF : BF = w6.heap.size)
    (t4 : w4.ownsRow ST 3 1 (.slice (some ⟨ST, 0, none⟩) nrow nrow) nrow x4) (g4 : (w2.alloc (.cells #[.int .i64 line, .slice (some ⟨O, 0, none⟩) ncol ncol, .map (some MP)] 33)).grownBy w4 none)
    (t5 : w5.ownsRow EN 3 1 (.slice (some ⟨EN, 0, none⟩) 0 N) 0 []) (g5 : w4.grownBy w5 none)
    (t6 : w6.ownsRow RD 4 1 (.slice (some ⟨RD, 0, none⟩) N N) N x6) (g6 : w5.grownBy w6 none)
    (t7 : w7.ownsRow BF 4 1 (.slice (some ⟨BF, 0, none⟩) N N) N x7) (g7 : w6.grownBy w7 none) : LS w w7 O MP HD ST EN RD BF ncol nrow N line S us 0 0 (.slice none 0 0) := by
  have nn : ∀ b : Nat, some b ≠ none := fun b => by simp
  have g2 : w2.grownBy (w2.alloc (.cells #[.int .i64 line, .slice (some ⟨O, 0, none⟩) ncol ncol, .map (some MP)] 33)) none := World.grownBy_alloc _ _ _
  have hO : O < w2.heap.size := by obtain ⟨nc, hb, _⟩ := h.nm; exact hb.lt
  have hMP := h.mp.lt
  have hord := h.ord
  obtain ⟨b4, l4⟩ := own_blk t4
  obtain ⟨b6, l6⟩ := own_blk t6
  obtain ⟨b7, l7⟩ := own_blk t7
  have e5 := (t5.lt EN rfl).2
  have s4 := b4.lt
  have s6 := b6.lt
  have s7 := b7.lt
  have bh := (((((Blk.new w2 [.int .i64 line, .slice (some ⟨O, 0, none⟩) ncol ncol, .map (some MP)] 33).grown g4 (nn _)).grown g5 (nn _)).grown g6 (nn _)).grown g7 (nn _))
  rw [← hHD] at bh
  have z2 : (w2.alloc (.cells #[.int .i64 line, .slice (some ⟨O, 0, none⟩) ncol ncol, .map (some MP)] 33)).heap.size = HD + 1 := by simp [hHD]
  have y4 := g4.size
  have y5 := g5.size
  have y6 := g6.size
  have y7 := g7.size
  refine ⟨?_, ?_, ?_, bh, ⟨x4, ((b4.grown g5 (nn _)).grown g6 (nn _)).grown g7 (nn _), l4, fun q hq => absurd hq (by omega)⟩, ?_, ⟨x6, b6.grown g7 (nn _), l6, fun j hj => absurd hj (by omega)⟩, ⟨x7, b7, l7, fun j hj => absurd hj (by omega)⟩, World.ownsRow_nil _ _ _ _, by omega⟩
  · exact ((((h.low.grown g2 (by omega) (by simp)).grown g4 (by omega) (by simp)).grown g5 (by omega) (by simp)).grown g6 (by omega) (by simp)).grown g7 (by omega) (by simp)
  · obtain ⟨nc, hb, hl, hx⟩ := h.nm
    exact ⟨nc, ((((hb.grown g2 (nn _)).grown g4 (nn _)).grown g5 (nn _)).grown g6 (nn _)).grown g7 (nn _), hl, hx⟩
  · exact ((((h.mp.kept g2 (nn _)).kept g4 (nn _)).kept g5 (nn _)).kept g6 (nn _)).kept g7 (nn _)
  · exact (t5.kept g6 (.inr (by simp [Value.ownBlock]))).kept g7 (.inr (by simp [Value.ownBlock]))

theorem has_name (c sel : Nat) (hc : c ≤ 6) (hs : sel < c) : Maps.has (Cm c) (keyL sel) = true ∧ (Cm c).atKey (keyL sel) (.lit (.int .i64 0)) = .lit (.int .i64 (sel : Int)) := by
  obtain rfl | rfl | rfl | rfl | rfl | rfl : c = 1 ∨ c = 2 ∨ c = 3 ∨ c = 4 ∨ c = 5 ∨ c = 6 := by omega
  · obtain rfl : sel = 0 := by omega
    exact ⟨by kernel_rfl, by kernel_rfl⟩
  · obtain rfl | rfl : sel = 0 ∨ sel = 1 := by omega
    all_goals exact ⟨by kernel_rfl, by kernel_rfl⟩
  · obtain rfl | rfl | rfl : sel = 0 ∨ sel = 1 ∨ sel = 2 := by omega
    all_goals exact ⟨by kernel_rfl, by kernel_rfl⟩
  · obtain rfl | rfl | rfl | rfl : sel = 0 ∨ sel = 1 ∨ sel = 2 ∨ sel = 3 := by omega
    all_goals exact ⟨by kernel_rfl, by kernel_rfl⟩
  · obtain rfl | rfl | rfl | rfl | rfl : sel = 0 ∨ sel = 1 ∨ sel = 2 ∨ sel = 3 ∨ sel = 4 := by omega
    all_goals exact ⟨by kernel_rfl, by kernel_rfl⟩
  · obtain rfl | rfl | rfl | rfl | rfl | rfl : sel = 0 ∨ sel = 1 ∨ sel = 2 ∨ sel = 3 ∨ sel = 4 ∨ sel = 5 := by omega
    all_goals exact ⟨by kernel_rfl, by kernel_rfl⟩

def nope : ByteArray := ⟨#[110, 111, 112, 101]⟩
theorem has_nope (c : Nat) (hc : c ≤ 6) : Maps.has (Cm c) (.string nope.data.toList) = false ∧ (Cm c).atKey (.string nope.data.toList) (.lit (.int .i64 0)) = .lit (.int .i64 0) := by
  obtain rfl | rfl | rfl | rfl | rfl | rfl | rfl : c = 0 ∨ c = 1 ∨ c = 2 ∨ c = 3 ∨ c = 4 ∨ c = 5 ∨ c = 6 := by omega
  all_goals exact ⟨by kernel_rfl, by kernel_rfl⟩

theorem look_any {W : World} {MP n : Nat} {D : DataW Unit} {s : ByteArray} {b : Bool} {a : Int} (h : W.ownsMap (H := Unit) Ybaf.prog 9 (plainElem Ybaf.prog 3) MP n D) (hs : s.size ≤ maxLen) (h1 : Maps.has D (.string s.data.toList) = b) (h2 : D.atKey (.string s.data.toList) (.lit (.int .i64 0)) = .lit (.int .i64 a)) :
    (Instr.lookup 30 (.map (some MP)) (.string s) true).run Ybaf.prog W = .ok (.tuple #[.int .i64 a, .bool b]) W := by
  obtain ⟨v, ps, hrun, hv⟩ := h.look_ok law Ybaf.underlying30 (zero3 W) (plainElem_int Ybaf.underlying3 (by decide)) (keyOf_string_mk Ybaf.underlying9 hs)
  obtain ⟨x, rfl, hx, _⟩ := plainElem_int_inv Ybaf.underlying3 hv
  rw [h2] at hx
  rw [h1] at hrun
  simp at hx
  rw [hrun, hx.1]

theorem map_same {w W : World} {MP n : Nat} {D : DataW Unit} (h : w.ownsMap (H := Unit) Ybaf.prog 9 (plainElem Ybaf.prog 3) MP n D) (he : W.heap[MP]? = w.heap[MP]?) : W.ownsMap (H := Unit) Ybaf.prog 9 (plainElem Ybaf.prog 3) MP n D := by
  obtain ⟨es, clock, hb, rest⟩ := h
  exact ⟨es, clock, he.trans hb, rest⟩

section
variable {w wr : World} {O MP HD ST EN RD BF ncol nrow N : Nat} {line : Int} {S : Nat → ByteArray} {us : Nat → Bool} {k r : Nat} {tv : Value}

theorem own_slice {w : World} {B e n : Nat} {v : Value} {xs : List Value} (h : w.ownsRow B e 1 v n xs) : ∃ a c, v = .slice a n c := by
  rcases h.2 with ⟨rfl, h0⟩ | ⟨g, cap, cur, rfl, _⟩
  · exact ⟨none, 0, by rw [h0]⟩
  · exact ⟨_, cap, rfl⟩

theorem own_set {w : World} {B e n : Nat} {v : Value} {xs : List Value} (h : w.ownsRow B e 1 v n xs) {p : Addr} (hp : p.block < B) (u : Value) : (w.setCell p u).ownsRow B e 1 v n xs := by
  refine ⟨h.1, ?_⟩
  rcases h.2 with hn | ⟨g, cap, cur, rfl, hb, hgg, rest⟩
  · exact .inl hn
  · exact .inr ⟨g, cap, cur, rfl, hb, (Below.heap_setCell w p u g (by omega)).trans hgg, rest⟩

theorem own_set' {w : World} {B e n g c : Nat} {xs : List Value} (h : w.ownsRow B e 1 (.slice (some ⟨g, 0, none⟩) n c) n xs) {p : Addr} (hp : p.block ≠ g) (u : Value) : (w.setCell p u).ownsRow B e 1 (.slice (some ⟨g, 0, none⟩) n c) n xs := by
  refine ⟨h.1, ?_⟩
  rcases h.2 with hn | ⟨g', cap, cur, e, hb, hgg, rest⟩
  · exact .inl hn
  · refine .inr ⟨g', cap, cur, e, hb, (Below.heap_setCell w p u g' (fun hx => ?_)).trans hgg, rest⟩
    have e1 : g = g' := Option.some.inj (congrArg (fun v => v.ownBlock) e)
    exact hp (by rw [← hx, e1])

theorem LS.stLook (h : LS w wr O MP HD ST EN RD BF ncol nrow N line S us k r tv) (hr : r < nrow) : (∃ v, wr.cell? ⟨ST, r, none⟩ = some v) ∧ wr.frozen? ⟨ST, r, none⟩ = false := by
  obtain ⟨sc, hb, hl, _⟩ := h.st
  exact ⟨⟨_, by rw [hb.cell, List.getElem?_eq_getElem (by omega)]⟩, hb.free r⟩

theorem LS.stSet (h : LS w wr O MP HD ST EN RD BF ncol nrow N line S us k r tv) (hr : r < nrow) (hk : k = r * ncol) : LS w (wr.setCell ⟨ST, r, none⟩ (.int .i64 (pos S k : Int))) O MP HD ST EN RD BF ncol nrow N line S us k (r + 1) tv := by
  obtain ⟨sc, hb, hl, hs⟩ := h.st
  obtain ⟨nc, n1, n2, n3⟩ := h.nm
  obtain ⟨rc, r1, r2, r3⟩ := h.rd
  obtain ⟨bc, c1, c2, c3⟩ := h.bf
  have ho := h.ord
  refine ⟨h.low.setCell (by simp; omega) _, ⟨nc, n1.other (by simp; omega) _, n2, n3⟩, h.mp.setCell (by simp; omega) _, h.hd.other (by simp; omega) _, ⟨_, hb.set r _, by simpa using hl, fun q hq => ?_⟩, own_set' h.en (by simp; omega) _, ⟨rc, r1.other (by simp; omega) _, r2, r3⟩, ⟨bc, c1.other (by simp; omega) _, c2, c3⟩, own_set h.tx (by simp; omega) _, by simp [World.setCell] at ho ⊢; omega⟩
  by_cases e : q = r
  · subst e
    rw [List.getElem?_set_self (by omega), hk]
  · rw [List.getElem?_set_ne (by omega)]
    exact hs q (by omega)

theorem new_cell {w : World} {G : Nat} (hG : G = w.heap.size) (v : Value) (t : TypeId) : ∀ j u', [v][j]? = some u' → (w.alloc (.cells #[v] t)).cell? ((⟨G, 0, none⟩ : Addr).add j) = some u' := by
  intro j u' hu
  obtain ⟨hj, rfl⟩ := List.getElem?_eq_some_iff.1 hu
  have h := Blk.new w [v] t
  rw [← hG] at h
  rw [Addr.add_lit, Nat.zero_add, h.cell, List.getElem?_eq_getElem hj]

theorem own_ne {w : World} {B e n : Nat} {v : Value} {xs : List Value} (h : w.ownsRow B e 1 v n xs) {x : Nat} (hx : x < B) : some x ≠ v.ownBlock := fun e => by
  have := (h.lt x e.symm).1
  omega

theorem own_ne' {w : World} {B e n : Nat} {v : Value} {xs : List Value} (h : w.ownsRow B e 1 v n xs) {x : Nat} (hx : x < B) : v.ownBlock = none ∨ v.ownBlock ≠ some x := .inr fun e => by
  have := (h.lt x e).1
  omega

/-- behind the first append, and the new row of one end -/
theorem LS.en1 {w1 : World} {o : Obj} (h : LS w wr O MP HD ST EN RD BF ncol nrow N line S us k r tv) (g : wr.grownBy w1 tv.ownBlock) : (w1.alloc o).ownsRow EN 3 1 (.slice (some ⟨EN, 0, none⟩) k N) k (endsV S k) := by
  have := h.ord
  exact (h.en.kept g (.inr (by rw [show (Value.slice (some ⟨EN, 0, none⟩) k N).ownBlock = some EN from rfl]; exact own_ne h.tx (by omega)))).alloc o

theorem LS.tx2 {w1 w2 : World} {o1 o2 : Obj} {tv1 : Value} {n : Nat} {xs : List Value} (h : LS w wr O MP HD ST EN RD BF ncol nrow N line S us k r tv) (t1 : w1.ownsRow (BF + 1) 5 1 tv1 n xs) (g2 : (w1.alloc o1).grownBy w2 (some EN)) : (w2.alloc o2).ownsRow (BF + 1) 5 1 tv1 n xs := by
  have := h.ord
  exact ((t1.alloc o1).kept g2 (own_ne' t1 (by omega))).alloc o2

/-- one cell is laid -/
theorem LS.step {w1 w2 w3 : World} {o1 o2 : Obj} {tv1 tv3 : Value} (h : LS w wr O MP HD ST EN RD BF ncol nrow N line S us k r tv) (hk : k < N)
    (t1 : w1.ownsRow (BF + 1) 5 1 tv1 (pos S k + (S k).size) ((txt S k).map (Value.int .u8) ++ Lib.strCells (S k))) (g1 : wr.grownBy w1 tv.ownBlock)
    (t2 : w2.ownsRow EN 3 1 (.slice (some ⟨EN, 0, none⟩) (k + 1) N) (k + 1) (endsV S k ++ [.int .i64 ((pos S k + (S k).size : Nat) : Int)])) (g2 : (w1.alloc o1).grownBy w2 (some EN))
    (t3 : w3.ownsRow (BF + 1) 5 1 tv3 (pos S k + (S k).size + 1) ((txt S k).map (Value.int .u8) ++ Lib.strCells (S k) ++ [.int .u8 44])) (g3 : (w2.alloc o2).grownBy w3 tv1.ownBlock) :
    (∃ v, w3.cell? ⟨RD, k, none⟩ = some v) ∧ w3.frozen? ⟨RD, k, none⟩ = false ∧ (∃ v, (w3.setCell ⟨RD, k, none⟩ (.bool (us k))).cell? ⟨BF, k, none⟩ = some v) ∧ (w3.setCell ⟨RD, k, none⟩ (.bool (us k))).frozen? ⟨BF, k, none⟩ = false ∧ (w3.setCell ⟨RD, k, none⟩ (.bool (us k))).cell? ⟨RD, k, none⟩ = some (.bool (us k)) ∧
    LS w ((w3.setCell ⟨RD, k, none⟩ (.bool (us k))).setCell ⟨BF, k, none⟩ (.bool (us k))) O MP HD ST EN RD BF ncol nrow N line S us (k + 1) r tv3 := by
  have ho := h.ord
  have a1 : w1.grownBy (w1.alloc o1) none := World.grownBy_alloc _ _ _
  have a2 : w2.grownBy (w2.alloc o2) none := World.grownBy_alloc _ _ _
  have nn : ∀ b : Nat, some b ≠ none := fun b => by simp
  have k1 : ∀ b, b < BF + 1 → some b ≠ tv.ownBlock := fun b hb => own_ne h.tx hb
  have k3 : ∀ b, b < BF + 1 → some b ≠ tv1.ownBlock := fun b hb => own_ne t1 hb
  have blk : ∀ {b cs t}, Blk wr b cs t → b < BF + 1 → b ≠ EN → Blk w3 b cs t := fun hb hlt hne => ((((hb.grown g1 (k1 _ hlt)).grown a1 (nn _)).grown g2 (by simp; omega)).grown a2 (nn _)).grown g3 (k3 _ hlt)
  obtain ⟨nc, n1, n2, n3⟩ := h.nm
  obtain ⟨sc, s1, s2, s3⟩ := h.st
  obtain ⟨rc, r1, r2, r3⟩ := h.rd
  obtain ⟨bc, c1, c2, c3⟩ := h.bf
  have R := blk r1 (by omega) (by omega)
  have C := blk c1 (by omega) (by omega)
  have C2 := C.other (p := ⟨RD, k, none⟩) (by simp; omega) (.bool (us k))
  have R2 := R.set k (.bool (us k))
  have y1 := g1.size
  have y2 := g2.size
  have y3 := g3.size
  have z1 : w1.heap.size ≤ (w1.alloc o1).heap.size := by simp
  have z2 : w2.heap.size ≤ (w2.alloc o2).heap.size := by simp
  refine ⟨⟨_, by rw [R.cell, List.getElem?_eq_getElem (by omega)]⟩, R.free k, ⟨_, by rw [C2.cell, List.getElem?_eq_getElem (by omega)]⟩, C2.free k, by rw [R2.cell, List.getElem?_set_self (by omega)], ?_⟩
  refine ⟨?_, ⟨nc, ((blk n1 (by omega) (by omega)).other (by simp; omega) _).other (by simp; omega) _, n2, n3⟩, ?_, ((blk h.hd (by omega) (by omega)).other (by simp; omega) _).other (by simp; omega) _, ⟨sc, ((blk s1 (by omega) (by omega)).other (by simp; omega) _).other (by simp; omega) _, s2, s3⟩, ?_, ⟨_, R2.other (by simp; omega) _, by simpa using r2, fun j hj => ?_⟩, ⟨_, C2.set k _, by simpa using c2, fun j hj => ?_⟩, ?_, ?_⟩
  · refine (Below.setCell (Below.setCell ?_ (by simp; omega) _) (by simp; omega) _)
    exact ((((h.low.grown g1 (by omega) (fun x hx => by have := (h.tx.lt x hx).1; omega)).grown a1 (by omega) (by simp)).grown g2 (by omega) (fun x hx => by have := Option.some.inj hx; omega)).grown a2 (by omega) (by simp)).grown g3 (by omega) (fun x hx => by have := (t1.lt x hx).1; omega)
  · refine ((((((h.mp.kept g1 (k1 _ (by omega))).kept a1 (nn _)).kept g2 (by simp; omega)).kept a2 (nn _)).kept g3 (k3 _ (by omega))).setCell (by simp; omega) _).setCell (by simp; omega) _
  · have := (t2.kept a2 (.inr (by simp [Value.ownBlock]))).kept g3 (.inr (k3 EN (by omega)))
    have e : endsV S (k + 1) = endsV S k ++ [.int .i64 ((pos S k + (S k).size : Nat) : Int)] := by simp [endsV, List.range_succ]
    rw [e]
    exact own_set' (own_set' this (by simp; omega) _) (by simp; omega) _
  · by_cases e : j = k
    · subst e; rw [List.getElem?_set_self (by omega)]
    · rw [List.getElem?_set_ne (by omega)]; exact r3 j (by omega)
  · by_cases e : j = k
    · subst e; rw [List.getElem?_set_self (by omega)]
    · rw [List.getElem?_set_ne (by omega)]; exact c3 j (by omega)
  · rw [← txt_cells, pos_succ, ← Nat.add_assoc]
    exact own_set (own_set t3 (by simp; omega) _) (by simp) _
  · simp [World.setCell] at y1 y2 y3 z1 z2 ⊢; omega

theorem LS.str (h : LS w wr O MP HD ST EN RD BF ncol nrow N line S us k r tv) (hp : 0 < pos S k) : (convert 22 9 tv).run Ybaf.prog wr = .ok (.string (strOfNums (txt S k))) wr := by
  rcases h.tx.2 with ⟨_, h0⟩ | ⟨g, cap, cur, rfl, _⟩
  · omega
  · refine run_convert_bytes_arg wr 22 5 Ybaf.underlying22 Ybaf.underlying5 g 0 _ cap (txt S k) rfl (fun i hi => ?_) 9 Ybaf.underlying9
    rw [Nat.zero_add, h.tx.cellAt i (by have hi' : i < pos S k := hi; simpa using hi'), List.getElem?_map]
    have : i < (txt S k).length := hi
    simp [List.getD, List.getElem?_eq_getElem this]

theorem LS.grown {w' : World} {row : Option Nat} (h : LS w wr O MP HD ST EN RD BF ncol nrow N line S us k r tv) (g : wr.grownBy w' row) (hr : row = none) : LS w w' O MP HD ST EN RD BF ncol nrow N line S us k r tv := by
  subst hr
  have ho := h.ord
  have nn : ∀ b : Nat, some b ≠ none := fun b => by simp
  obtain ⟨nc, n1, n2, n3⟩ := h.nm
  obtain ⟨sc, s1, s2, s3⟩ := h.st
  obtain ⟨rc, r1, r2, r3⟩ := h.rd
  obtain ⟨bc, c1, c2, c3⟩ := h.bf
  have hs := g.size
  exact ⟨h.low.grown g (by omega) (by simp), ⟨nc, n1.grown g (nn _), n2, n3⟩, h.mp.kept g (nn _), h.hd.grown g (nn _), ⟨sc, s1.grown g (nn _), s2, s3⟩, h.en.kept g (.inr (by simp [Value.ownBlock])), ⟨rc, r1.grown g (nn _), r2, r3⟩, ⟨bc, c1.grown g (nn _), c2, c3⟩, h.tx.kept g (by cases e : tv.ownBlock with | none => exact .inl rfl | some x => exact .inr (by simp)), by omega⟩

/-- the world in which Text is called: the block and the row are boxed -/
structure Call (w w8 : World) (O MP HD EN RD BF BK ncol nrow N : Nat) (line : Int) (S : Nat → ByteArray) (us : Nat → Bool) (tv : Value) : Prop where
  ls : LS w w8 O MP HD (HD + 1) EN RD BF ncol nrow N line S us N nrow tv
  bk : Bk w8 BK HD O (HD + 1) EN RD MP ncol nrow N N line (strOfNums (txt S N))
  ord : BF < BK ∧ BK + 1 < w8.heap.size

theorem call_of {o : Obj} {tx : ByteArray} (h : LS w wr O MP HD (HD + 1) EN RD BF ncol nrow N line S us N nrow tv) (htx : tx = strOfNums (txt S N)) :
    Call w ((wr.alloc (.cells #[.pointer (some ⟨HD, 0, none⟩), .string tx, .slice none 0 0, .slice (some ⟨HD + 1, 0, none⟩) nrow nrow, .slice (some ⟨EN, 0, none⟩) N N, .slice (some ⟨RD, 0, none⟩) N N] 39)).alloc o) O MP HD EN RD BF wr.heap.size ncol nrow N line S us tv := by
  subst htx
  have h1 := (h.grown (World.grownBy_alloc wr (.cells #[.pointer (some ⟨HD, 0, none⟩), .string (strOfNums (txt S N)), .slice none 0 0, .slice (some ⟨HD + 1, 0, none⟩) nrow nrow, .slice (some ⟨EN, 0, none⟩) N N, .slice (some ⟨RD, 0, none⟩) N N] 39) none) rfl).grown (World.grownBy_alloc _ o none) rfl
  have := h.ord
  exact ⟨h1, ⟨h1.hd, (Blk.new wr [.pointer (some ⟨HD, 0, none⟩), .string (strOfNums (txt S N)), .slice none 0 0, .slice (some ⟨HD + 1, 0, none⟩) nrow nrow, .slice (some ⟨EN, 0, none⟩) N N, .slice (some ⟨RD, 0, none⟩) N N] 39).alloc o⟩, by omega, by simp⟩
end
end Go.Proofs.YbulkcgzuFmt
