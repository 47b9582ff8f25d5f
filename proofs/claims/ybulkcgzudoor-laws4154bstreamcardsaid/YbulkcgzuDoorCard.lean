import Derived.Test.YbulkcgzuDoorRow
import Derived.Test.YbulkcgzuDoorLaw
import Derived.Test.YbulkcgzuDoorCards
import Derived.Test.YbulkcgzuDoorTie
import Derived.SevenTiedAt
/-! THE ROW AND THE TIED CARD OF 'bom.LawS4154BStream' (function 3). -/
namespace Go.Proofs.YbulkcgzuDoor
open Go.ChangeShapes Go.WideShapes Go.ChangeAt Go.RowKit

/-- a byte slice that came in, opened -/
theorem came_bytes {H : Type} {enc : TypeId × Value → H} {W : World} {a : Option Addr} {len cap : Nat} {d : DataW H} {p : List MemPlace} (h : DataW.Trod enc Ybad.prog W 0 (fun _ => true) true 22 (.slice a len cap) d p) :
    ∃ zs : List Int, (a = none → len = 0 ∧ cap = 0) ∧ len ≤ zs.length ∧ (∀ z, z ∈ zs → 0 ≤ z ∧ z ≤ 255) ∧
      (0 < len → ∃ b off, a = some ⟨b, off, none⟩ ∧ ∀ j, j < len → W.cell? ⟨b, off + j, none⟩ = some (.int .u8 (zs.getD j 0))) := by
  obtain ⟨fuel, hf⟩ := h
  rcases open_ints Ybad.underlying22 Ybad.underlying5 Ybad.cells5 hf with ⟨hcs, _⟩ | ⟨x, l, c, zs, hcs, _, hl, hm, hz, _, hcell, hwz⟩
  · simp [Value.cells] at hcs
    obtain ⟨rfl, rfl, rfl⟩ := hcs
    exact ⟨[], fun _ => ⟨rfl, rfl⟩, Nat.le_refl _, (fun z hz => absurd hz (by simp)), fun h => absurd h (Nat.lt_irrefl _)⟩
  · simp [Value.cells] at hcs
    obtain ⟨rfl, rfl, rfl⟩ := hcs
    have hz' : zs.length = cap := by simpa using hz
    refine ⟨zs, fun h => absurd h (by simp), by omega, fun z hz => bounds_u8 (hwz z hz), fun h0 => ?_⟩
    obtain ⟨b, off, spot⟩ := x
    have hspot : spot = none := by simpa [Addr.add] using World.cell?_spot (hcell 0 (by omega))
    subst hspot
    exact ⟨b, off, rfl, fun j hj => by rw [← add_plain]; exact hcell j (by omega)⟩

theorem sizes_of {W : World} {a : Option Addr} {len : Nat} {zs : List Int} (h1 : len ≤ 1024) (hl : len ≤ zs.length) (hb : ∀ z, z ∈ zs → 0 ≤ z ∧ z ≤ 255)
    (h : 0 < len → ∃ b off, a = some ⟨b, off, none⟩ ∧ ∀ j, j < len → W.cell? ⟨b, off + j, none⟩ = some (.int .u8 (zs.getD j 0))) : Sizes W a len [] := by
  refine ⟨h1, fun h0 => ?_⟩
  obtain ⟨b, off, e, hc⟩ := h h0
  refine ⟨b, off, e, by simp, fun j hj => ?_⟩
  have hj' : j < zs.length := by omega
  have hz := hb zs[j] (List.getElem_mem hj')
  exact ⟨zs[j], hz.1, hz.2, by rw [hc j hj]; simp [List.getD, List.getElem?_eq_getElem hj']⟩

theorem law_long1 (a1 a2 : Option Addr) (n1 c1 n2 c2 : Nat) (wm fl : Bool) (bl : Int) (w : World) (h : 1024 < n1) :
    Calls Ybad.prog 3 #[.slice a1 n1 c1, .bool wm, .slice a2 n2 c2, .int .u8 bl, .bool fl] w fun e w' => e = .returned (.bool true) ∧ Below w.heap.size w w' := by
  have h' : (1024 : Int) < (n1 : Int) := by omega
  go_enter Ybad.func3, Ybad.ntmps3
  go_wp2
  go_ret
  exact ⟨rfl, Below.refl _ _⟩
theorem law_long2 (a1 a2 : Option Addr) (n1 c1 n2 c2 : Nat) (wm fl : Bool) (bl : Int) (w : World) (h1 : n1 ≤ 1024) (h : 1024 < n2) :
    Calls Ybad.prog 3 #[.slice a1 n1 c1, .bool wm, .slice a2 n2 c2, .int .u8 bl, .bool fl] w fun e w' => e = .returned (.bool true) ∧ Below w.heap.size w w' := by
  have h' : (1024 : Int) < (n2 : Int) := by omega
  have h1' : decide ((1024 : Int) < (n1 : Int)) = false := by simp; omega
  go_enter Ybad.func3, Ybad.ntmps3
  go_wp2
  go_ret
  exact ⟨rfl, Below.refl _ _⟩

set_option maxRecDepth 100000 in
theorem stream_lifted (os : Os) (started : os.Started) (H : Type) (enc : TypeId × Value → H) :
    ReturnsInHanded {} Ybad.checked os 3 .any (fun w args => (Rows.lawS4154BStreamSpec.pre enc Ybad.prog Ybad.f3 [] false w args ∧ laidMetH Ybad.prog Rows.lawS4154BStreamRow.laid w) ∧ sizedMet enc Ybad.prog Ybad.f3 (OpenSpec.ofChange Rows.lawS4154BStreamSpec) false w args)
      (Rows.lawS4154BStreamSpec.post enc Ybad.prog Ybad.f3 false true false false) := by
  refine returnsInHanded_of_change_and (C := Ybad.checked) (X := fun w _ => laidMetH Ybad.prog Rows.lawS4154BStreamRow.laid w) (fun _ _ _ hh h => h.of_heap hh) own started (by kernel_rfl) Ybad.func3
    (ChangeSpec.witness_shaped (enc := enc) (C := Ybad.checked) (os := os) (X := fun w _ => laidMetH Ybad.prog Rows.lawS4154BStreamRow.laid w) false (World.doorLaid Ybad.prog 400 os) #[.slice none 0 0, .bool false, .slice none 0 0, .int .u8 0, .bool false] 8 rfl (World.shaped_of_RefB (by kernel_rfl) (by kernel_rfl)) (by kernel_rfl) (by kernel_rfl) (by kernel_rfl) (door_met os _)) ?_
  intro W base args ds gs before hval0 hW _ _ hL _
  have hval : ∀ (j : Nat) t v, Ybad.f3.params[j]? = some t → args[j]? = some v → Value.okWide Ybad.prog W .any base t v := hval0
  have hW' := hW
  obtain ⟨p, q, hA0, hV, rfl, hfz, hnd⟩ := hW
  have hA : DataW.TrodAll enc Ybad.prog W 0 (fun _ => true) true Ybad.f3.params.toList args.toList ds p := hA0
  rw [Ybad.params3] at hA hval
  obtain ⟨v0, vs0, d0, ds0, p0, q0, hargs, rfl, rfl, h0, r0⟩ := trodAll_cons hA
  obtain ⟨v1, vs1, d1, ds1, p1, q1, rfl, rfl, rfl, h1, r1⟩ := trodAll_cons r0
  obtain ⟨v2, vs2, d2, ds2, p2, q2, rfl, rfl, rfl, h2, r2⟩ := trodAll_cons r1
  obtain ⟨v3, vs3, d3, ds3, p3, q3, rfl, rfl, rfl, h3, r3⟩ := trodAll_cons r2
  obtain ⟨v4, vs4, d4, ds4, p4, q4, rfl, rfl, rfl, h4, r4⟩ := trodAll_cons r3
  obtain ⟨rfl, rfl, rfl⟩ := trodAll_nil r4
  obtain rfl : args = #[v0, v1, v2, v3, v4] := by cases args; simp_all
  obtain ⟨rfl, rfl⟩ := trodVars_none hV
  obtain ⟨aE, aU, gE, gU, hne, bE, bU⟩ := of_laid hL
  obtain ⟨a0, len0, cap0, rfl⟩ := okWide_slice Ybad.underlying22 (hval 0 22 v0 rfl rfl)
  have k0 := h0
  have lt0 : ∀ x ∈ p0, x.block < W.heap.size := by obtain ⟨m, hm⟩ := k0; exact DataW.trod_lt m _ _ _ hm
  obtain ⟨z0, e00, e01, e02, e03⟩ := came_bytes h0
  obtain ⟨wm, rfl, rfl, rfl⟩ := open_bool Ybad.underlying4 (hval 1 4 v1 rfl rfl) h1
  obtain ⟨a2, len2, cap2, rfl⟩ := okWide_slice Ybad.underlying22 (hval 2 22 v2 rfl rfl)
  have k2 := h2
  have lt2 : ∀ x ∈ p2, x.block < W.heap.size := by obtain ⟨m, hm⟩ := k2; exact DataW.trod_lt m _ _ _ hm
  obtain ⟨z2, e20, e21, e22, e23⟩ := came_bytes h2
  obtain ⟨bl, rfl, rfl, rfl, wbl⟩ := open_int Ybad.underlying5 (hval 3 5 v3 rfl rfl) h3
  obtain ⟨fl, rfl, rfl, rfl⟩ := open_bool Ybad.underlying4 (hval 4 4 v4 rfl rfl) h4
  clear hA0 hval0
  obtain ⟨hb0, hb1⟩ := bounds_u8 wbl
  have hwalk : Calls Ybad.prog 3 #[.slice a0 len0 cap0, .bool wm, .slice a2 len2 cap2, .int .u8 bl, .bool fl] W fun e w' => e = .returned (.bool true) ∧ Below W.heap.size W w' := by
    by_cases hn1 : 1024 < len0
    · exact law_long1 a0 a2 len0 cap0 len2 cap2 wm fl bl W hn1
    by_cases hn2 : 1024 < len2
    · exact law_long2 a0 a2 len0 cap0 len2 cap2 wm fl bl W (by omega) hn2
    exact stream_law a0 len0 cap0 z0 wm a2 len2 cap2 bl fl aE aU W ⟨e00, e01, e02, e03, sizes_of (by omega) e21 e22 e23, gE, gU, hne, bE, bU⟩ (by omega) (by omega) hb0 hb1
  refine hwalk.mono fun e W' ⟨he, bel⟩ => ?_
  subst he
  exact ⟨_, rfl, _, _, _, [], _, [], hW', trodAll_mk1 (shut_bool Ybad.underlying4 _),
    (trodAll_cons_mk (Below.trod laidOut (by kernel_rfl) (of_decide_eq_true (by kernel_rfl)) k0 bel lt0) (trodAll_cons_mk (shut_bool Ybad.underlying4 _) (trodAll_cons_mk (Below.trod laidOut (by kernel_rfl) (of_decide_eq_true (by kernel_rfl)) k2 bel lt2) (trodAll_cons_mk (shut_int Ybad.underlying5 wbl) (trodAll_cons_mk (shut_bool Ybad.underlying4 _) trodAll_mk0))))),
    rfl, bel.frame _, fun h => by cases h⟩

theorem lawS4154BStream_holds : Rows.LawS4154BStreamSaid :=
  OpenClaim.holds_of_wide 3 Ybad.f3 rfl rfl rfl rfl rfl rfl rfl ⟨rfl, rfl, rfl, rfl, rfl⟩ rfl rfl rfl rfl rfl (by kernel_rfl) Ybad.func3 (by kernel_rfl)
    (of_decide_eq_true (by kernel_rfl)) (by unfold Func.isWrapper; first | (rw [if_pos (by decide +kernel)]; kernel_rfl) | (rw [if_neg (by decide +kernel)]; exact ⟨rfl, rfl⟩))
    (fun os started H enc _ => stream_lifted os started H enc)

/-- THE GIVEN CARD: the row, its three listed variables tied to the program's text. -/
theorem lawS4154BStream_card : Rows.LawS4154BStreamCardSaid :=
  Claim7.holds_tied_plain_at .later [] [.sentinel, .sentinel, .sentinel] true _ true
    lawS4154BStream_holds (fun _ h => by cases h) (by kernel_rfl) (fun _ h => by cases h) lawS4154BStream_row_tie rfl ⟨rfl, rfl⟩ (by kernel_rfl) rfl
    (fun f fn hf hfn => by
      obtain rfl : f = 3 := Option.some.inj ((show Ybad.prog.funcNamed Rows.lawS4154BStreamRow.func = some 3 by kernel_rfl).symm.trans hf) |>.symm
      obtain rfl : fn = Ybad.f3 := (Option.some.inj (Ybad.func3.symm.trans hfn)).symm
      exact ⟨by kernel_rfl, fun j t ht => by
        rw [Ybad.params3] at ht
        have h3 : t = 22 ∨ t = 4 ∨ t = 5 := by
          rcases j with _ | _ | _ | _ | _ | j
          · exact .inl (by simpa using ht.symm)
          · exact .inr (.inl (by simpa using ht.symm))
          · exact .inl (by simpa using ht.symm)
          · exact .inr (.inr (by simpa using ht.symm))
          · exact .inr (.inl (by simpa using ht.symm))
          · simp at ht
        rcases h3 with rfl | rfl | rfl
        · exact (show Ybad.prog.wantsStandIn 22 = false by kernel_rfl)
        · exact (show Ybad.prog.wantsStandIn 4 = false by kernel_rfl)
        · exact (show Ybad.prog.wantsStandIn 5 = false by kernel_rfl)⟩)
    (by kernel_rfl)
end Go.Proofs.YbulkcgzuDoor
