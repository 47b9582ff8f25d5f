import Derived.Test.YbulkcgwaFmtAgree
import Derived.Lib.Strings
import Derived.Lib.IndexBytes
/-! The plain facts on bytes that tie ParseSUPI's checks to the model's, and 'zzs4147ccheck' at every string and every number. -/
namespace Go.Proofs.YbulkcgwaFmt
open Go.RowKit Go.Extern.Stop Go.Stop Go.Extern

theorem ext_list (d : ByteArray) (a b : Nat) : (d.extract a b).data.toList = (d.data.toList.drop a).take (b - a) := by
  simp

theorem all_parts (l : List UInt8) (k : Nat) (h : 3 ≤ k) : ((l.take 3).all dig && (((l.drop 3).take (k - 3)).all dig && (l.drop k).all dig)) = l.all dig := by
  have e1 : l = l.take 3 ++ ((l.drop 3).take (k - 3) ++ l.drop k) := by
    have : (l.drop 3).drop (k - 3) = l.drop k := by rw [List.drop_drop]; congr 1; omega
    rw [← this, List.take_append_drop, List.take_append_drop]
  conv => rhs; rw [e1]
  rw [List.all_append, List.all_append]

theorem check_plain (d : ByteArray) (k : Nat) (h3 : k = 5 ∨ k = 6) (hd : k < d.size) :
    checkB (d.extract 0 3) (d.extract 3 k) (d.extract k d.size) = (decide (d.size ≤ 15) && d.data.toList.all dig) := by
  unfold checkB homeB digB
  have s1 : (d.extract 0 3).size = 3 := by simp; omega
  have s2 : (d.extract 3 k).size = k - 3 := by simp; omega
  have s3 : (d.extract k d.size).size = d.size - k := by simp
  rw [s1, s2, s3, ext_list, ext_list, ext_list]
  have e4 : (d.data.toList.drop k).take (d.size - k) = d.data.toList.drop k := List.take_of_length_le (by simp)
  rw [e4, List.drop_zero, Nat.sub_zero]
  rw [← all_parts d.data.toList k (by omega)]
  have t1 : decide ((3 : Int) ≤ ((3 : Nat) : Int)) = true := by decide
  have t2 : decide (((3 : Nat) : Int) ≤ 3) = true := by decide
  have t3 : decide ((2 : Int) ≤ ((k - 3 : Nat) : Int)) = true := by simp; omega
  have t4 : decide (((k - 3 : Nat) : Int) ≤ 3) = true := by simp; omega
  have t5 : decide ((1 : Int) ≤ ((d.size - k : Nat) : Int)) = true := by simp; omega
  have t6 : decide (((d.size - k : Nat) : Int) ≤ 12 - ((k - 3 : Nat) : Int)) = decide (d.size ≤ 15) := by
    rw [Bool.eq_iff_iff]; simp; omega
  rw [t1, t2, t3, t4, t5, t6]
  simp only [Bool.true_and]
  generalize (d.data.toList.take 3).all dig = A
  generalize ((d.data.toList.drop 3).take (k - 3)).all dig = B
  generalize (d.data.toList.drop k).all dig = C
  generalize decide (d.size ≤ 15) = D
  cases A <;> cases B <;> cases C <;> cases D <;> rfl

theorem cat_plain (s d : ByteArray) (k : Nat) (hp : ((s.extract 0 5).toList == [105, 109, 115, 105, 45]) = true) (hd : s.extract 5 s.size = d) (h3 : 3 ≤ k) :
    (⟨#[105, 109, 115, 105, 45]⟩ : ByteArray) ++ d.extract 0 3 ++ d.extract 3 k ++ d.extract k d.size = s := by
  have hp' : s.data.toList.take 5 = [105, 109, 115, 105, 45] := by
    have := eq_of_beq hp
    rw [Lib.toList_data, Lib.extract_data] at this
    simpa using this
  have hd' : s.data.toList.drop 5 = d.data.toList := by rw [← hd, Lib.extract_to_end]
  have e3 : (d.data.toList.drop k).take (d.size - k) = d.data.toList.drop k := List.take_of_length_le (by simp)
  have e4 : d.data.toList.take 3 ++ ((d.data.toList.drop 3).take (k - 3) ++ d.data.toList.drop k) = d.data.toList := by
    have : (d.data.toList.drop 3).drop (k - 3) = d.data.toList.drop k := by rw [List.drop_drop]; congr 1; omega
    rw [← this, List.take_append_drop, List.take_append_drop]
  apply ByteArray.ext
  apply Array.toList_inj.1
  simp only [ByteArray.data_append, Array.toList_append, Lib.extract_data]
  rw [e3, List.drop_zero, Nat.sub_zero, List.append_assoc, List.append_assoc, e4, ← hd']
  conv => rhs; rw [← List.take_append_drop 5 s.data.toList, hp']

/-- 'zzs4147ccheck' answers true at every string of at most 1029 bytes and every number of MNC digits. -/
theorem agree (F : Interp) (s : ByteArray) (m : Int) (w : World) (hF : F.answers w.tape) (hs : s.size ≤ 1029) :
    Calls Ybaf.prog 5 #[.string s, .int .i64 m] w fun e w' => e = .returned (.bool true) ∧ Below w.heap.size w w' := by
  by_cases h5 : s.size < 5
  · exact agree_no F s m w hF (fun F w hF => parse_nofix F s s m w hF fun w => cut_short s w h5) (model_short s m h5)
  have h5' : 5 ≤ s.size := by omega
  cases hp : ((s.extract 0 5).toList == [105, 109, 115, 105, 45]) with
  | false => exact agree_no F s m w hF (fun F w hF => parse_nofix F s s m w hF fun w => cut_no s w h5' hp) (model_nofix s m h5' hp)
  | true =>
    have hc : CutsTo s (s.extract 5 s.size) true := fun w => cut_yes s w (by omega) h5' hp
    have hds : (s.extract 5 s.size).size = s.size - 5 := by simp
    obtain ⟨d, hd⟩ : ∃ d, s.extract 5 s.size = d := ⟨_, rfl⟩
    rw [hd] at hc hds
    by_cases hm2 : m < 2
    · exact agree_no F s m w hF (fun F w hF => parse_small F s d m w hF hc hm2) (model_badm s m h5' hp (by omega) (by omega))
    by_cases hm3 : 3 < m
    · exact agree_no F s m w hF (fun F w hF => parse_large F s d m w hF hc hm3) (model_badm s m h5' hp (by omega) (by omega))
    rcases (show m = 2 ∨ m = 3 by omega) with rfl | rfl
    · by_cases hlen : d.size ≤ 5
      · exact agree_no F s 2 w hF (fun F w hF => parse_short F s d 2 w hF hc hm2 hm3 (by omega)) (model_few2 s h5' hp (by omega))
      have hk := check_plain d 5 (.inl rfl) (by omega)
      by_cases h15 : d.size ≤ 15
      · rw [decide_eq_true h15, Bool.true_and] at hk
        cases ha : d.data.toList.all dig with
        | true =>
          rw [ha] at hk
          exact agree_yes s _ _ _ 2 w (fun w => parse_yes2 s d w hc (by omega) (by omega) hk) (fun w => model_yes2 s d hd h5' hp (by omega) (by omega) ha w) (by simp; omega) (by simp; omega) (by simp; omega) (cat_plain s d 5 hp hd (by omega))
        | false =>
          rw [ha] at hk
          exact agree_no F s 2 w hF (fun F w hF => parse_no2 F s d w hF hc (by omega) (by omega) hk) (model_no2 s d hd h5' hp (by omega) (by omega) ha)
      · rw [decide_eq_false h15, Bool.false_and] at hk
        exact agree_no F s 2 w hF (fun F w hF => parse_no2 F s d w hF hc (by omega) (by omega) hk) (model_many2 s h5' hp (by omega))
    · by_cases hlen : d.size ≤ 6
      · exact agree_no F s 3 w hF (fun F w hF => parse_short F s d 3 w hF hc hm2 hm3 (by omega)) (model_few3 s h5' hp (by omega))
      have hk := check_plain d 6 (.inr rfl) (by omega)
      by_cases h15 : d.size ≤ 15
      · rw [decide_eq_true h15, Bool.true_and] at hk
        cases ha : d.data.toList.all dig with
        | true =>
          rw [ha] at hk
          exact agree_yes s _ _ _ 3 w (fun w => parse_yes3 s d w hc (by omega) (by omega) hk) (fun w => model_yes3 s d hd h5' hp (by omega) (by omega) ha w) (by simp; omega) (by simp; omega) (by simp; omega) (cat_plain s d 6 hp hd (by omega))
        | false =>
          rw [ha] at hk
          exact agree_no F s 3 w hF (fun F w hF => parse_no3 F s d w hF hc (by omega) (by omega) hk) (model_no3 s d hd h5' hp (by omega) (by omega) ha)
      · rw [decide_eq_false h15, Bool.false_and] at hk
        exact agree_no F s 3 w hF (fun F w hF => parse_no3 F s d w hF hc (by omega) (by omega) hk) (model_many3 s h5' hp (by omega))
end Go.Proofs.YbulkcgwaFmt
