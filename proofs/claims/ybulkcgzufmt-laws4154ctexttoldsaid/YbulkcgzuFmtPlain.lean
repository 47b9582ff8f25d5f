import Derived.Test.YbulkcgzuFmtKit
import Derived.Laws.BytesArg
import Derived.Lib.AppendStr
/-! The text that the law lays: pieces, each followed by a comma; what a cut at the pieces' places gives. -/
namespace Go.Proofs.YbulkcgzuFmt
open Go.RowKit

def by8 (s : ByteArray) : List Int := s.data.toList.map fun b => (b.toNat : Int)
def txt (S : Nat → ByteArray) : Nat → List Int
  | 0 => []
  | k + 1 => txt S k ++ (by8 (S k) ++ [44])
def pos (S : Nat → ByteArray) (k : Nat) : Nat := (txt S k).length

theorem by8_len (s : ByteArray) : (by8 s).length = s.size := by simp [by8]
theorem pos_succ (S : Nat → ByteArray) (k : Nat) : pos S (k + 1) = pos S k + ((S k).size + 1) := by
  unfold pos
  rw [txt, List.length_append, List.length_append, by8_len]
  rfl
theorem pos_le' (S : Nat → ByteArray) {N : Nat} (h : ∀ j, j < N → (S j).size ≤ 4096) : ∀ k, k ≤ N → pos S k ≤ k * 4097
  | 0, _ => by simp [pos, txt]
  | k + 1, hk => by have := pos_le' S h k (by omega); have := h k (by omega); rw [pos_succ]; omega
theorem pos_mono (S : Nat → ByteArray) {k n : Nat} (h : k < n) : pos S k + (S k).size + 1 ≤ pos S n := by
  induction n with
  | zero => omega
  | succ n ih =>
    rw [pos_succ]
    by_cases e : k = n
    · subst e; omega
    · have := ih (by omega); omega

theorem txt_split (S : Nat → ByteArray) {k n : Nat} (h : k < n) : ∃ r, txt S n = txt S k ++ (by8 (S k) ++ r) := by
  induction n with
  | zero => omega
  | succ n ih =>
    by_cases e : k = n
    · subst e; exact ⟨[44], rfl⟩
    · obtain ⟨r, hr⟩ := ih (by omega)
      exact ⟨r ++ (by8 (S n) ++ [44]), by rw [txt, hr]; simp⟩

theorem nums_back (l : List UInt8) : (l.map fun b => (b.toNat : Int)).map (fun z => UInt8.ofNat z.toNat) = l := by
  rw [List.map_map]
  conv => rhs; rw [← List.map_id l]
  apply List.map_congr_left
  intro b _
  simp

theorem ext_list (d : ByteArray) (a b : Nat) : (d.extract a b).data.toList = (d.data.toList.drop a).take (b - a) := by
  simp

theorem cut_piece (S : Nat → ByteArray) {k n : Nat} (h : k < n) : (strOfNums (txt S n)).extract (pos S k) (pos S k + (S k).size) = S k := by
  obtain ⟨r, hr⟩ := txt_split S h
  apply Go.WideShapes.bytes_inj
  rw [ext_list, strOfNums_data, hr, Nat.add_sub_cancel_left, List.map_append, List.map_append, List.drop_append_of_le_length (by simp [pos]), List.drop_of_length_le (by simp [pos]), List.nil_append]
  have e : ((by8 (S k)).map fun z => UInt8.ofNat z.toNat) = (S k).data.toList := nums_back _
  rw [e, List.take_append_of_le_length (by simp), List.take_of_length_le (by simp)]

theorem txt_size (S : Nat → ByteArray) (n : Nat) : (strOfNums (txt S n)).size = pos S n := strOfNums_size _

theorem txt_cells (S : Nat → ByteArray) (k : Nat) : (txt S k).map (Value.int .u8) ++ Lib.strCells (S k) ++ [.int .u8 44] = (txt S (k + 1)).map (Value.int .u8) := by
  rw [txt, List.map_append, List.map_append, List.append_assoc]
  congr 1
  simp [by8, Lib.strCells]
end Go.Proofs.YbulkcgzuFmt
