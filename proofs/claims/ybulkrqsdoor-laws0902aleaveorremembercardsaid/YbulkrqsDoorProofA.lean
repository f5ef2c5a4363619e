/-
  Seat b0902aD. 'Rows.LawS0902ALeaveOrRememberCardSaid' PROVED: from the walks to the row, from the row to the tied card.
-/
import Derived.Test.YbulkrqsDoorLawC
import Derived.Test.YbulkrqsDoorTie
import Derived.Test.YbulkrqsDoorCards
import Derived.ProofKit
import Derived.LaidMore
import Derived.OpenShut
import Derived.OpenVars
import Derived.ShutString
import Derived.SliceStrings
import Derived.Stop.Joined
import Derived.SevenTiedAt
namespace Go.Proofs.YbulkrqsDoor
open Go.ChangeShapes Go.WideShapes Go.ChangeAt Go.WideMaps Go.WideElems Go.RowKit

theorem own : ownKnob Ybad.prog.godebug = none := by kernel_rfl
theorem laidOut : laidOutB Ybad.prog = true := by kernel_rfl
def laidL : List (String × DataW Unit) := [("example.com/homeward/homeward.securityCheckTimer", Rows.laid_example_com_homeward_homeward_securityCheckTimer), ("example.com/homeward/homeward.classClauses", Rows.laid_example_com_homeward_homeward_classClauses), ("example.com/homeward/homeward.countries", Rows.laid_example_com_homeward_homeward_countries)]

/-- The door's own heap meets the condition. -/
theorem door_met (os : Os) (args : Array Value) : laidMetH Ybad.prog laidL ((World.doorLaid Ybad.prog 400 os).forCall (fun _ _ => 0) ⟨#[], args, []⟩).memory :=
  laidMetH_of_parts3 (fuel := 8) (laidMet_of_run' 8 (by kernel_rfl) (by kernel_rfl)) (by kernel_rfl) (by kernel_rfl)

theorem row_at {w : World} {a : Addr} {f : Nat → Value} {n : Nat} (h : ∀ i, i < n → w.cell? (a.add i) = some (f i)) (k : Nat) (hk : k < n) :
    ∃ b off, some a = some ⟨b, off, none⟩ ∧ b < w.heap.size ∧ w.cell? ⟨b, off + k, none⟩ = some (f k) := by
  obtain ⟨b, off, spot⟩ := a
  have hspot : spot = none := by simpa [Addr.add] using World.cell?_spot (h 0 (by omega))
  subst hspot
  have hc := h k hk
  rw [Addr.add_mid] at hc
  exact ⟨b, off, rfl, block_lt_of_cell hc, hc⟩

theorem trodVars3 {H : Type} {enc : TypeId × Value → H} {P : Program} {w : World} {sp : Nat → Bool} {n0 n1 n2 : String} {gs : List (DataW H)} {ps : List MemPlace} (h : DataW.TrodVars enc P w sp [n0, n1, n2] gs ps) : ∃ g0 g1 g2, gs = [g0, g1, g2] := by
  match gs, h with
  | [g0, g1, g2], _ => exact ⟨g0, g1, g2, rfl⟩
  | [], h => exact h.elim
  | [_], h => obtain ⟨_, _, _, _, _, _, _, _, _, _, h, _⟩ := h; exact h.elim
  | [_, _], h => obtain ⟨_, _, _, _, _, _, _, _, _, _, ⟨_, _, _, _, _, _, _, _, _, _, h, _⟩, _⟩ := h; exact h.elim
  | _ :: _ :: _ :: _ :: _, h => obtain ⟨_, _, _, _, _, _, _, _, _, _, ⟨_, _, _, _, _, _, _, _, _, _, ⟨_, _, _, _, _, _, _, _, _, _, h, _⟩, _⟩, _⟩ := h; exact h.elim

section
variable {H : Type} {enc : TypeId × Value → H} {W : World} {p : List MemPlace} {d : DataW H}
/-- A slice of integers that came in, as the walks ask it. -/
theorem in_ints {k : IntKind} {t e : TypeId} {a : Option Addr} {len cap : Nat} (ht : Ybad.prog.underlying t = some (.slice e)) (he : Ybad.prog.underlying e = some (.int k)) (hc : Ybad.prog.cellsOf e = 1)
    (h : DataW.Trod enc Ybad.prog W 0 (fun _ => true) true t (.slice a len cap) d p) : ∃ z : Nat → Int, In W W.heap.size a len (fun i => .int k (z i)) := by
  obtain ⟨fuel, hf⟩ := h
  rcases open_ints ht he hc hf with ⟨hcs, _⟩ | ⟨x, l, c, zs, hcs, _, hl, hm, hz, _, hcell, hwz⟩
  · simp [Value.cells] at hcs
    obtain ⟨rfl, rfl, rfl⟩ := hcs
    exact ⟨fun _ => 0, fun k hk => absurd hk (by omega)⟩
  · simp [Value.cells] at hcs
    obtain ⟨rfl, rfl, rfl⟩ := hcs
    have hz' : zs.length = cap := by simpa using hz
    exact ⟨fun k => zs.getD k 0, fun k hk => row_at hcell k (by omega)⟩
theorem in_strings {t e : TypeId} {a : Option Addr} {len cap : Nat} (ht : Ybad.prog.underlying t = some (.slice e)) (he : Ybad.prog.underlying e = some .string) (hc : Ybad.prog.cellsOf e = 1)
    (h : DataW.Trod enc Ybad.prog W 0 (fun _ => true) true t (.slice a len cap) d p) : ∃ z : Nat → ByteArray, In W W.heap.size a len (fun i => .string (z i)) := by
  obtain ⟨fuel, hf⟩ := h
  rcases open_strings ht he hc hf with ⟨hcs, _⟩ | ⟨x, l, c, zs, hcs, _, hl, hm, hz, _, hcell, hwz⟩
  · simp [Value.cells] at hcs
    obtain ⟨rfl, rfl, rfl⟩ := hcs
    exact ⟨fun _ => ByteArray.empty, fun k hk => absurd hk (by omega)⟩
  · simp [Value.cells] at hcs
    obtain ⟨rfl, rfl, rfl⟩ := hcs
    have hz' : zs.length = cap := by simpa using hz
    exact ⟨fun k => zs.getD k ByteArray.empty, fun k hk => row_at hcell k (by omega)⟩
end

set_option maxRecDepth 100000 in
theorem liftedA (os : Os) (started : os.Started) (H : Type) (enc : TypeId × Value → H) :
    ReturnsInHanded {} Ybad.checked os 3 .any (fun w args => (Rows.lawS0902ALeaveOrRememberSpec.pre enc Ybad.prog Ybad.f3 [] false w args ∧ laidMetH Ybad.prog laidL w) ∧ sizedMet enc Ybad.prog Ybad.f3 (OpenSpec.ofChange Rows.lawS0902ALeaveOrRememberSpec) false w args)
      (Rows.lawS0902ALeaveOrRememberSpec.post enc Ybad.prog Ybad.f3 false true false false) := by
  refine returnsInHanded_of_change_and (C := Ybad.checked) (X := fun w _ => laidMetH Ybad.prog laidL w) (fun _ _ _ hh h => h.of_heap hh) own started (by kernel_rfl) Ybad.func3
    (ChangeSpec.witness_shaped (enc := enc) (C := Ybad.checked) (os := os) (X := fun w _ => laidMetH Ybad.prog laidL w) false (World.doorLaid Ybad.prog 400 os) #[.int .u8 0, .slice none 0 0, .slice none 0 0, .int .i64 0, .slice none 0 0] 8 rfl (World.shaped_of_RefB (by kernel_rfl) (by kernel_rfl)) (by kernel_rfl) (by kernel_rfl) (by kernel_rfl) (door_met os _)) ?_
  intro W base args ds gs before hval0 hW _ _ hL _
  have hval : ∀ (j : Nat) t v, Ybad.f3.params[j]? = some t → args[j]? = some v → Value.okWide Ybad.prog W .any base t v := hval0
  have hW' := hW
  obtain ⟨p, q, hA0, hV, rfl, hfz, hnd⟩ := hW
  have hA : DataW.TrodAll enc Ybad.prog W 0 (fun _ => true) true Ybad.f3.params.toList args.toList ds p := hA0
  rw [Ybad.params3] at hA hval
  obtain ⟨v0, vs0, d0, ds0, p0, q0, hargs, rfl, rfl, h0, r0⟩ := trodAll_cons hA
  obtain ⟨v1, vs1, d1, ds1, p1, q1, rfl, rfl, rfl, h1, r1⟩ := trodAll_cons r0
  obtain ⟨v2, vs2, d2, ds2, p2, q2, rfl, rfl, rfl, h2, r2⟩ := trodAll_cons r1
  obtain ⟨v3, vs3, d3, ds3, p3, q3, rfl, rfl, rfl, h3, r3⟩ := trodAll_cons r2
  obtain ⟨v4, vs4, d4, ds4, p4, q4, rfl, rfl, rfl, h4, r4⟩ := trodAll_cons r3
  obtain ⟨rfl, rfl, rfl⟩ := trodAll_nil r4
  obtain rfl : args = #[v0, v1, v2, v3, v4] := by cases args; simp_all
  have hV0 : DataW.TrodVars enc Ybad.prog W (fun _ => true) ["example.com/homeward/homeward.countries", "example.com/homeward/homeward.classClauses", "example.com/homeward/homeward.securityCheckTimer"] gs q := hV
  obtain ⟨g0, g1, g2, rfl⟩ := trodVars3 hV0
  obtain ⟨a0, rfl, rfl, rfl, w0⟩ := open_int Ybad.underlying5 (hval 0 5 v0 rfl rfl) h0
  obtain ⟨a1, len1, cap1, rfl⟩ := okWide_slice Ybad.underlying22 (hval 1 22 v1 rfl rfl)
  obtain ⟨a2, len2, cap2, rfl⟩ := okWide_slice Ybad.underlying23 (hval 2 23 v2 rfl rfl)
  obtain ⟨a3, rfl, rfl, rfl, w3⟩ := open_int Ybad.underlying2 (hval 3 2 v3 rfl rfl) h3
  obtain ⟨a4, len4, cap4, rfl⟩ := okWide_slice Ybad.underlying24 (hval 4 24 v4 rfl rfl)
  have lt1 : ∀ x ∈ p1, x.block < W.heap.size := by obtain ⟨m, hm⟩ := h1; exact DataW.trod_lt m _ _ _ hm
  have lt2 : ∀ x ∈ p2, x.block < W.heap.size := by obtain ⟨m, hm⟩ := h2; exact DataW.trod_lt m _ _ _ hm
  have lt4 : ∀ x ∈ p4, x.block < W.heap.size := by obtain ⟨m, hm⟩ := h4; exact DataW.trod_lt m _ _ _ hm
  obtain ⟨fs, hs⟩ := in_strings Ybad.underlying22 Ybad.underlying9 (by kernel_rfl) h1
  obtain ⟨fd, hd⟩ := in_ints Ybad.underlying23 Ybad.underlying2 (by kernel_rfl) h2
  obtain ⟨ft, ht⟩ := in_ints Ybad.underlying24 Ybad.underlying5 (by kernel_rfl) h4
  have hb0 := bounds_u8 w0
  obtain ⟨nS, rfl⟩ := Int.eq_ofNat_of_zero_le hb0.1
  clear hA0 hval0
  refine (lawA_all nS a1 a2 a4 len1 cap1 len2 cap2 len4 cap4 a3 fs fd ft W (by omega) hs hd ht).mono fun e W' ⟨he, bel⟩ => ?_
  subst he
  exact ⟨_, rfl, _, _, _, [], _, _, hW', trodAll_mk1 (shut_bool Ybad.underlying4 _), (trodAll_cons_mk (shut_int Ybad.underlying5 w0) (trodAll_cons_mk (Below.trod laidOut (by kernel_rfl) (of_decide_eq_true (by kernel_rfl)) h1 bel lt1) (trodAll_cons_mk (Below.trod laidOut (by kernel_rfl) (of_decide_eq_true (by kernel_rfl)) h2 bel lt2) (trodAll_cons_mk (shut_int Ybad.underlying2 w3) (trodAll_cons_mk (Below.trod laidOut (by kernel_rfl) (of_decide_eq_true (by kernel_rfl)) h4 bel lt4) trodAll_mk0))))), Below.trodVars laidOut bel (by kernel_rfl) hV0, bel.frame _, fun h => by cases h⟩

theorem rowA : Rows.LawS0902ALeaveOrRememberSaid :=
  OpenClaim.holds_of_wide 3 Ybad.f3 rfl rfl rfl rfl rfl rfl rfl ⟨rfl, rfl, rfl, rfl, rfl⟩ rfl rfl rfl rfl rfl (by kernel_rfl) Ybad.func3 (by kernel_rfl)
    (of_decide_eq_true (by kernel_rfl)) (by unfold Func.isWrapper; first | (rw [if_pos (by decide +kernel)]; kernel_rfl) | (rw [if_neg (by decide +kernel)]; exact ⟨rfl, rfl⟩))
    (fun os started H enc _ => liftedA os started H enc)

/-- THE STATEMENT. -/
theorem lawS0902ALeaveOrRemember_proved : Rows.LawS0902ALeaveOrRememberCardSaid :=
  Claim7.holds_tied_plain_at .later [] [.data, .data, .zeroDeep] true (true, "c305973bacdb5fbc3cb536458c48d12d95db715990c8e2e8ae2dd802e0f1222a") true
    rowA (fun _ h => by cases h) (by kernel_rfl) (fun _ h => by cases h) lawS0902ALeaveOrRemember_row_tie rfl ⟨rfl, rfl⟩ (by kernel_rfl) rfl
    (fun f fn hf hfn => by
      obtain rfl : f = 3 := Option.some.inj ((show Ybad.prog.funcNamed "example.com/homeward/homeward.LawS0902ALeaveOrRemember" = some 3 by kernel_rfl).symm.trans hf) |>.symm
      obtain rfl : fn = Ybad.f3 := (Option.some.inj (Ybad.func3.symm.trans hfn)).symm
      exact ⟨by kernel_rfl, fun j t ht => by
        rw [Ybad.params3] at ht
        have hm : t ∈ [5, 22, 23, 2, 24] := by simpa using Array.mem_of_getElem? ht
        have hall : ([5, 22, 23, 2, 24].all fun u => !Ybad.prog.wantsStandIn u) = true := by kernel_rfl
        exact (show Ybad.prog.wantsStandIn t = false by simpa using List.all_eq_true.1 hall t hm)⟩)
    (by kernel_rfl)
end Go.Proofs.YbulkrqsDoor
