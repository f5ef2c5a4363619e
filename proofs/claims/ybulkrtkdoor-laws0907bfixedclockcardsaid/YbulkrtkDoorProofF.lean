/-
  Seat b0907aD. 'Rows.LawS0907BFixedClockCardSaid' PROVED: from the walk to the row, from the row to the tied card.
-/
import Derived.Test.YbulkrtkDoorBuild
namespace Go.Proofs.YbulkrtkDoor
open Go.ChangeShapes Go.WideShapes Go.ChangeAt Go.WideMaps Go.WideElems Go.RowKit

set_option maxRecDepth 100000 in
theorem liftedF (os : Os) (started : os.Started) (H : Type) (enc : TypeId × Value → H) :
    ReturnsInHanded {} Ybad.checked os 3 .any (fun w args => (Rows.lawS0907BFixedClockSpec.pre enc Ybad.prog Ybad.f3 [] false w args ∧ laidMetH Ybad.prog laidL w) ∧ sizedMet enc Ybad.prog Ybad.f3 (OpenSpec.ofChange Rows.lawS0907BFixedClockSpec) false w args)
      (Rows.lawS0907BFixedClockSpec.post enc Ybad.prog Ybad.f3 false true false false) := by
  refine returnsInHanded_of_change_and (C := Ybad.checked) (X := fun w _ => laidMetH Ybad.prog laidL w) (fun _ _ _ hh h => h.of_heap hh) own started (by kernel_rfl) Ybad.func3
    (ChangeSpec.witness_shaped (enc := enc) (C := Ybad.checked) (os := os) (X := fun w _ => laidMetH Ybad.prog laidL w) false (World.doorLaid Ybad.prog 400 os) #[.int .i64 0, .int .u16 0, .int .i64 0, .int .u16 0] 8 rfl (World.shaped_of_RefB (by kernel_rfl) (by kernel_rfl)) (by kernel_rfl) (by kernel_rfl) (by kernel_rfl) (door_met os _)) ?_
  intro W base args ds gs before hval0 hW _ _ hL _
  have hval : ∀ (j : Nat) t v, Ybad.f3.params[j]? = some t → args[j]? = some v → Value.okWide Ybad.prog W .any base t v := hval0
  have hW' := hW
  obtain ⟨p, q, hA0, hV, rfl, hfz, hnd⟩ := hW
  have hA : DataW.TrodAll enc Ybad.prog W 0 (fun _ => true) true Ybad.f3.params.toList args.toList ds p := hA0
  rw [Ybad.params3] at hA hval
  obtain ⟨v0, vs0, d0, ds0, p0, q0, hargs, rfl, rfl, h0, r0⟩ := trodAll_cons hA
  obtain ⟨v1, vs1, d1, ds1, p1, q1, rfl, rfl, rfl, h1, r1⟩ := trodAll_cons r0
  obtain ⟨v2, vs2, d2, ds2, p2, q2, rfl, rfl, rfl, h2, r2⟩ := trodAll_cons r1
  obtain ⟨v3, vs3, d3, ds3, p3, q3, rfl, rfl, rfl, h3, r3⟩ := trodAll_cons r2
  obtain ⟨rfl, rfl, rfl⟩ := trodAll_nil r3
  obtain rfl : args = #[v0, v1, v2, v3] := by cases args; simp_all
  have hV0 : DataW.TrodVars enc Ybad.prog W (fun _ => true) ["example.com/hailstone/hailstone.layouts", "example.com/hailstone/hailstone.errTimeRanOut"] gs q := hV
  obtain ⟨g0, g1, rfl⟩ := trodVars2 hV0
  obtain ⟨a0, rfl, rfl, rfl, w0⟩ := open_int Ybad.underlying2 (hval 0 2 v0 rfl rfl) h0
  obtain ⟨a1, rfl, rfl, rfl, w1⟩ := open_int Ybad.underlying22 (hval 1 22 v1 rfl rfl) h1
  obtain ⟨a2, rfl, rfl, rfl, w2⟩ := open_int Ybad.underlying2 (hval 2 2 v2 rfl rfl) h2
  obtain ⟨a3, rfl, rfl, rfl, w3⟩ := open_int Ybad.underlying22 (hval 3 22 v3 rfl rfl) h3
  have hb1 := bounds_u16 w1
  have hb3 := bounds_u16 w3
  obtain ⟨n1, rfl⟩ := Int.eq_ofNat_of_zero_le hb1.1
  obtain ⟨n3, rfl⟩ := Int.eq_ofNat_of_zero_le hb3.1
  have hG := glob_of_laid hL
  clear hA0 hval0
  refine (law_fixed a0 a2 n1 n3 W (by omega) (by omega) hG).mono fun e W' ⟨he, bel⟩ => ?_
  subst he
  exact ⟨_, rfl, _, _, _, [], _, _, hW', trodAll_mk1 (shut_bool Ybad.underlying4 _), (trodAll_cons_mk (shut_int Ybad.underlying2 w0) (trodAll_cons_mk (shut_int Ybad.underlying22 w1) (trodAll_cons_mk (shut_int Ybad.underlying2 w2) (trodAll_cons_mk (shut_int Ybad.underlying22 w3) trodAll_mk0)))), Below.trodVars laidOut bel (by kernel_rfl) hV0, bel.frame _, fun h => by cases h⟩

theorem rowF : Rows.LawS0907BFixedClockSaid :=
  OpenClaim.holds_of_wide 3 Ybad.f3 rfl rfl rfl rfl rfl rfl rfl ⟨rfl, rfl, rfl, rfl, rfl⟩ rfl rfl rfl rfl rfl (by kernel_rfl) Ybad.func3 (by kernel_rfl)
    (of_decide_eq_true (by kernel_rfl)) (by unfold Func.isWrapper; first | (rw [if_pos (by decide +kernel)]; kernel_rfl) | (rw [if_neg (by decide +kernel)]; exact ⟨rfl, rfl⟩))
    (fun os started H enc _ => liftedF os started H enc)

/-- THE STATEMENT. -/
theorem lawS0907BFixedClock_proved : Rows.LawS0907BFixedClockCardSaid :=
  Claim7.holds_tied_plain_at .later [] [.data, .data, .data, .sentinel, .data] true (true, "0cbde8cd3344587f11179a1715f8191619b0883f3efee04a2abdde0cbeac4d5a") true
    rowF (fun _ h => by cases h) (by kernel_rfl) (fun _ h => by cases h) lawS0907BFixedClock_row_tie rfl ⟨rfl, rfl⟩ (by kernel_rfl) rfl
    (fun f fn hf hfn => by
      obtain rfl : f = 3 := Option.some.inj ((show Ybad.prog.funcNamed "example.com/hailstone/hailstone.LawS0907BFixedClock" = some 3 by kernel_rfl).symm.trans hf) |>.symm
      obtain rfl : fn = Ybad.f3 := (Option.some.inj (Ybad.func3.symm.trans hfn)).symm
      exact ⟨by kernel_rfl, fun j t ht => by
        rw [Ybad.params3] at ht
        have hm : t ∈ [2, 22, 2, 22] := by simpa using Array.mem_of_getElem? ht
        have hall : ([2, 22, 2, 22].all fun u => !Ybad.prog.wantsStandIn u) = true := by kernel_rfl
        exact (show Ybad.prog.wantsStandIn t = false by simpa using List.all_eq_true.1 hall t hm)⟩)
    (by kernel_rfl)
end Go.Proofs.YbulkrtkDoor
