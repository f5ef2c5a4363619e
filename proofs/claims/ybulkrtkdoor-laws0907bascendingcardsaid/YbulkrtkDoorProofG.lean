/-
  Seat b0907aD. 'Rows.LawS0907BAscendingCardSaid' PROVED: from the walk to the row, from the row to the tied card.
-/
import Derived.Test.YbulkrtkDoorBuild
import Derived.Test.YbulkrtkDoorAsc
namespace Go.Proofs.YbulkrtkDoor
open Go.ChangeShapes Go.WideShapes Go.ChangeAt Go.WideMaps Go.WideElems Go.RowKit

theorem row_at {w : World} {a : Addr} {f : Nat → Value} {n : Nat} (h : ∀ i, i < n → w.cell? (a.add i) = some (f i)) (k : Nat) (hk : k < n) :
    ∃ b off, some a = some ⟨b, off, none⟩ ∧ b < w.heap.size ∧ w.cell? ⟨b, off + k, none⟩ = some (f k) := by
  obtain ⟨b, off, spot⟩ := a
  have hspot : spot = none := by simpa [Addr.add] using World.cell?_spot (h 0 (by omega))
  subst hspot
  have hc := h k hk
  rw [Addr.add_mid] at hc
  exact ⟨b, off, rfl, block_lt_of_cell hc, hc⟩

/-- A slice of uint32 that came in, as the walk asks it. -/
theorem in_u32 {H : Type} {enc : TypeId × Value → H} {W : World} {p : List MemPlace} {d : DataW H} {a : Option Addr} {len cap : Nat}
    (h : DataW.Trod enc Ybad.prog W 0 (fun _ => true) true 34 (.slice a len cap) d p) : ∃ z : Nat → Int, In W W.heap.size a len (fun i => .int .u32 (z i)) ∧ ∀ i, i < len → 0 ≤ z i ∧ z i ≤ 4294967295 := by
  obtain ⟨fuel, hf⟩ := h
  rcases open_ints Ybad.underlying34 Ybad.underlying35 (by kernel_rfl) hf with ⟨hcs, _⟩ | ⟨x, l, c, zs, hcs, _, hl, hm, hz, _, hcell, hwz⟩
  · simp [Value.cells] at hcs
    obtain ⟨rfl, rfl, rfl⟩ := hcs
    exact ⟨fun _ => 0, fun k hk => absurd hk (by omega), fun k hk => absurd hk (by omega)⟩
  · simp [Value.cells] at hcs
    obtain ⟨rfl, rfl, rfl⟩ := hcs
    have hz' : zs.length = cap := by simpa using hz
    refine ⟨fun k => zs.getD k 0, fun k hk => row_at hcell k (by omega), fun k hk => ?_⟩
    have hmem : zs.getD k 0 ∈ zs := by
      rw [List.getD_eq_getElem?_getD, List.getElem?_eq_getElem (by omega)]
      exact List.getElem_mem _
    exact bounds_u32 (hwz _ hmem)

theorem law_asc_all (a : Option Addr) (len cap : Nat) (z : Nat → Int) (us W k : Nat) (w : World) (hus : us ≤ 4294967295) (hW : W ≤ 65535) (hk : k ≤ 255) (hz : ∀ i, i < len → 0 ≤ z i ∧ z i ≤ 4294967295) (hin : In w w.heap.size a len (fun i => .int .u32 (z i))) (hG : Glob w) :
    Calls Ybad.prog 4 #[.slice a len cap, .int .u32 us, .int .u16 W, .int .u8 k] w fun e w' => e = .returned (.bool true) ∧ Below w.heap.size w w' := by
  by_cases h : len ≤ 1024
  · exact law_asc a len cap z us W k w h hus hW hk hz hin hG
  · exact law_long a len cap _ _ _ w (by omega)

set_option maxRecDepth 100000 in
theorem liftedG (os : Os) (started : os.Started) (H : Type) (enc : TypeId × Value → H) :
    ReturnsInHanded {} Ybad.checked os 4 .any (fun w args => (Rows.lawS0907BAscendingSpec.pre enc Ybad.prog Ybad.f4 [] false w args ∧ laidMetH Ybad.prog laidL w) ∧ sizedMet enc Ybad.prog Ybad.f4 (OpenSpec.ofChange Rows.lawS0907BAscendingSpec) false w args)
      (Rows.lawS0907BAscendingSpec.post enc Ybad.prog Ybad.f4 false true false false) := by
  refine returnsInHanded_of_change_and (C := Ybad.checked) (X := fun w _ => laidMetH Ybad.prog laidL w) (fun _ _ _ hh h => h.of_heap hh) own started (by kernel_rfl) Ybad.func4
    (ChangeSpec.witness_shaped (enc := enc) (C := Ybad.checked) (os := os) (X := fun w _ => laidMetH Ybad.prog laidL w) false (World.doorLaid Ybad.prog 400 os) #[.slice none 0 0, .int .u32 0, .int .u16 0, .int .u8 0] 8 rfl (World.shaped_of_RefB (by kernel_rfl) (by kernel_rfl)) (by kernel_rfl) (by kernel_rfl) (by kernel_rfl) (door_met os _)) ?_
  intro W base args ds gs before hval0 hW _ _ hL _
  have hval : ∀ (j : Nat) t v, Ybad.f4.params[j]? = some t → args[j]? = some v → Value.okWide Ybad.prog W .any base t v := hval0
  have hW' := hW
  obtain ⟨p, q, hA0, hV, rfl, hfz, hnd⟩ := hW
  have hA : DataW.TrodAll enc Ybad.prog W 0 (fun _ => true) true Ybad.f4.params.toList args.toList ds p := hA0
  rw [Ybad.params4] at hA hval
  obtain ⟨v0, vs0, d0, ds0, p0, q0, hargs, rfl, rfl, h0, r0⟩ := trodAll_cons hA
  obtain ⟨v1, vs1, d1, ds1, p1, q1, rfl, rfl, rfl, h1, r1⟩ := trodAll_cons r0
  obtain ⟨v2, vs2, d2, ds2, p2, q2, rfl, rfl, rfl, h2, r2⟩ := trodAll_cons r1
  obtain ⟨v3, vs3, d3, ds3, p3, q3, rfl, rfl, rfl, h3, r3⟩ := trodAll_cons r2
  obtain ⟨rfl, rfl, rfl⟩ := trodAll_nil r3
  obtain rfl : args = #[v0, v1, v2, v3] := by cases args; simp_all
  have hV0 : DataW.TrodVars enc Ybad.prog W (fun _ => true) ["example.com/hailstone/hailstone.layouts", "example.com/hailstone/hailstone.errTimeRanOut"] gs q := hV
  obtain ⟨g0, g1, rfl⟩ := trodVars2 hV0
  obtain ⟨a0, len0, cap0, rfl⟩ := okWide_slice Ybad.underlying34 (hval 0 34 v0 rfl rfl)
  obtain ⟨a1, rfl, rfl, rfl, w1⟩ := open_int Ybad.underlying35 (hval 1 35 v1 rfl rfl) h1
  obtain ⟨a2, rfl, rfl, rfl, w2⟩ := open_int Ybad.underlying22 (hval 2 22 v2 rfl rfl) h2
  obtain ⟨a3, rfl, rfl, rfl, w3⟩ := open_int Ybad.underlying5 (hval 3 5 v3 rfl rfl) h3
  have lt0 : ∀ x ∈ p0, x.block < W.heap.size := by obtain ⟨m, hm⟩ := h0; exact DataW.trod_lt m _ _ _ hm
  obtain ⟨fz, hin, hfz2⟩ := in_u32 h0
  have hb1 := bounds_u32 w1
  have hb2 := bounds_u16 w2
  have hb3 := bounds_u8 w3
  obtain ⟨n1, rfl⟩ := Int.eq_ofNat_of_zero_le hb1.1
  obtain ⟨n2, rfl⟩ := Int.eq_ofNat_of_zero_le hb2.1
  obtain ⟨n3, rfl⟩ := Int.eq_ofNat_of_zero_le hb3.1
  have hG := glob_of_laid hL
  clear hA0 hval0
  refine (law_asc_all a0 len0 cap0 fz n1 n2 n3 W (by omega) (by omega) (by omega) hfz2 hin hG).mono fun e W' ⟨he, bel⟩ => ?_
  subst he
  exact ⟨_, rfl, _, _, _, [], _, _, hW', trodAll_mk1 (shut_bool Ybad.underlying4 _), (trodAll_cons_mk (Below.trod laidOut (by kernel_rfl) (of_decide_eq_true (by kernel_rfl)) h0 bel lt0) (trodAll_cons_mk (shut_int Ybad.underlying35 w1) (trodAll_cons_mk (shut_int Ybad.underlying22 w2) (trodAll_cons_mk (shut_int Ybad.underlying5 w3) trodAll_mk0)))), Below.trodVars laidOut bel (by kernel_rfl) hV0, bel.frame _, fun h => by cases h⟩

theorem rowG : Rows.LawS0907BAscendingSaid :=
  OpenClaim.holds_of_wide 4 Ybad.f4 rfl rfl rfl rfl rfl rfl rfl ⟨rfl, rfl, rfl, rfl, rfl⟩ rfl rfl rfl rfl rfl (by kernel_rfl) Ybad.func4 (by kernel_rfl)
    (of_decide_eq_true (by kernel_rfl)) (by unfold Func.isWrapper; first | (rw [if_pos (by decide +kernel)]; kernel_rfl) | (rw [if_neg (by decide +kernel)]; exact ⟨rfl, rfl⟩))
    (fun os started H enc _ => liftedG os started H enc)

/-- THE STATEMENT. -/
theorem lawS0907BAscending_proved : Rows.LawS0907BAscendingCardSaid :=
  Claim7.holds_tied_plain_at .later [] [.data, .data, .data, .sentinel, .data] true (true, "0cbde8cd3344587f11179a1715f8191619b0883f3efee04a2abdde0cbeac4d5a") true
    rowG (fun _ h => by cases h) (by kernel_rfl) (fun _ h => by cases h) lawS0907BAscending_row_tie rfl ⟨rfl, rfl⟩ (by kernel_rfl) rfl
    (fun f fn hf hfn => by
      obtain rfl : f = 4 := Option.some.inj ((show Ybad.prog.funcNamed "example.com/hailstone/hailstone.LawS0907BAscending" = some 4 by kernel_rfl).symm.trans hf) |>.symm
      obtain rfl : fn = Ybad.f4 := (Option.some.inj (Ybad.func4.symm.trans hfn)).symm
      exact ⟨by kernel_rfl, fun j t ht => by
        rw [Ybad.params4] at ht
        have hm : t ∈ [34, 35, 22, 5] := by simpa using Array.mem_of_getElem? ht
        have hall : ([34, 35, 22, 5].all fun u => !Ybad.prog.wantsStandIn u) = true := by kernel_rfl
        exact (show Ybad.prog.wantsStandIn t = false by simpa using List.all_eq_true.1 hall t hm)⟩)
    (by kernel_rfl)
end Go.Proofs.YbulkrtkDoor
