/-
  Seat b0902aD. 'Rows.LawS0902AWaitWithRulesCardSaid' PROVED: from the walks to the row, from the row to the tied card.
-/
import Derived.Test.YbulkrqsDoorLawW
import Derived.Test.YbulkrqsDoorTie
import Derived.Test.YbulkrqsDoorCards
import Derived.ProofKit
import Derived.LaidMore
import Derived.OpenShut
import Derived.OpenVars
import Derived.ShutString
import Derived.SliceStrings
import Derived.Deep.SlicePairs
import Derived.Deep.Strs
import Derived.Stop.Joined
import Derived.SevenTiedAt
namespace Go.Proofs.YbulkrqsDoor
open Go.ChangeShapes Go.WideShapes Go.ChangeAt Go.WideMaps Go.WideElems Go.RowKit

theorem own : ownKnob Ybad.prog.godebug = none := by kernel_rfl
theorem laidOut : laidOutB Ybad.prog = true := by kernel_rfl
def laidL : List (String × DataW Unit) := [("example.com/homeward/homeward.securityCheckTimer", Rows.laid_example_com_homeward_homeward_securityCheckTimer), ("example.com/homeward/homeward.classClauses", Rows.laid_example_com_homeward_homeward_classClauses), ("example.com/homeward/homeward.countries", Rows.laid_example_com_homeward_homeward_countries)]

/-- The door's own heap meets the condition. -/
theorem door_met (os : Os) (args : Array Value) : laidMetH Ybad.prog laidL ((World.doorLaid Ybad.prog 400 os).forCall (fun _ _ => 0) ⟨#[], args, []⟩).memory :=
  laidMetH_of_parts3 (fuel := 8) (laidMet_of_run' 8 (by kernel_rfl) (by kernel_rfl)) (by kernel_rfl) (by kernel_rfl)

theorem row_at {w : World} {a : Addr} {f : Nat → Value} {n : Nat} (h : ∀ i, i < n → w.cell? (a.add i) = some (f i)) (k : Nat) (hk : k < n) :
    ∃ b off, some a = some ⟨b, off, none⟩ ∧ b < w.heap.size ∧ w.cell? ⟨b, off + k, none⟩ = some (f k) := by
  obtain ⟨b, off, spot⟩ := a
  have hspot : spot = none := by simpa [Addr.add] using World.cell?_spot (h 0 (by omega))
  subst hspot
  have hc := h k hk
  rw [Addr.add_mid] at hc
  exact ⟨b, off, rfl, block_lt_of_cell hc, hc⟩

theorem trodVars3 {H : Type} {enc : TypeId × Value → H} {P : Program} {w : World} {sp : Nat → Bool} {n0 n1 n2 : String} {gs : List (DataW H)} {ps : List MemPlace} (h : DataW.TrodVars enc P w sp [n0, n1, n2] gs ps) : ∃ g0 g1 g2, gs = [g0, g1, g2] := by
  match gs, h with
  | [g0, g1, g2], _ => exact ⟨g0, g1, g2, rfl⟩
  | [], h => exact h.elim
  | [_], h => obtain ⟨_, _, _, _, _, _, _, _, _, _, h, _⟩ := h; exact h.elim
  | [_, _], h => obtain ⟨_, _, _, _, _, _, _, _, _, _, ⟨_, _, _, _, _, _, _, _, _, _, h, _⟩, _⟩ := h; exact h.elim
  | _ :: _ :: _ :: _ :: _, h => obtain ⟨_, _, _, _, _, _, _, _, _, _, ⟨_, _, _, _, _, _, _, _, _, _, ⟨_, _, _, _, _, _, _, _, _, _, h, _⟩, _⟩, _⟩ := h; exact h.elim

section
variable {H : Type} {enc : TypeId × Value → H} {W : World} {p : List MemPlace} {d : DataW H}
/-- A slice of integers that came in, as the walks ask it. -/
theorem in_ints {k : IntKind} {t e : TypeId} {a : Option Addr} {len cap : Nat} (ht : Ybad.prog.underlying t = some (.slice e)) (he : Ybad.prog.underlying e = some (.int k)) (hc : Ybad.prog.cellsOf e = 1)
    (h : DataW.Trod enc Ybad.prog W 0 (fun _ => true) true t (.slice a len cap) d p) : ∃ z : Nat → Int, In W W.heap.size a len (fun i => .int k (z i)) := by
  obtain ⟨fuel, hf⟩ := h
  rcases open_ints ht he hc hf with ⟨hcs, _⟩ | ⟨x, l, c, zs, hcs, _, hl, hm, hz, _, hcell, hwz⟩
  · simp [Value.cells] at hcs
    obtain ⟨rfl, rfl, rfl⟩ := hcs
    exact ⟨fun _ => 0, fun k hk => absurd hk (by omega)⟩
  · simp [Value.cells] at hcs
    obtain ⟨rfl, rfl, rfl⟩ := hcs
    have hz' : zs.length = cap := by simpa using hz
    exact ⟨fun k => zs.getD k 0, fun k hk => row_at hcell k (by omega)⟩
theorem in_strings {t e : TypeId} {a : Option Addr} {len cap : Nat} (ht : Ybad.prog.underlying t = some (.slice e)) (he : Ybad.prog.underlying e = some .string) (hc : Ybad.prog.cellsOf e = 1)
    (h : DataW.Trod enc Ybad.prog W 0 (fun _ => true) true t (.slice a len cap) d p) : ∃ z : Nat → ByteArray, In W W.heap.size a len (fun i => .string (z i)) := by
  obtain ⟨fuel, hf⟩ := h
  rcases open_strings ht he hc hf with ⟨hcs, _⟩ | ⟨x, l, c, zs, hcs, _, hl, hm, hz, _, hcell, hwz⟩
  · simp [Value.cells] at hcs
    obtain ⟨rfl, rfl, rfl⟩ := hcs
    exact ⟨fun _ => ByteArray.empty, fun k hk => absurd hk (by omega)⟩
  · simp [Value.cells] at hcs
    obtain ⟨rfl, rfl, rfl⟩ := hcs
    have hz' : zs.length = cap := by simpa using hz
    exact ⟨fun k => zs.getD k ByteArray.empty, fun k hk => row_at hcell k (by omega)⟩
end

theorem in_rules {H : Type} {enc : TypeId × Value → H} {W : World} {p : List MemPlace} {d : DataW H} {a : Option Addr} {len cap : Nat}
    (h : DataW.Trod enc Ybad.prog W 0 (fun _ => true) true 83 (.slice a len cap) d p) : ∃ (sec : Nat → Bool) (z : Nat → Int), In2 W W.heap.size a len sec z := by
  obtain ⟨fuel, hf⟩ := h
  rcases Go.Deep.open_slice_pairs Ybad.underlying83 Ybad.underlying85 (by kernel_rfl) rfl rfl (by kernel_rfl) (by kernel_rfl) hf with ⟨hcs, _⟩ | ⟨x, l, c, m, n, V0, V1, D0, D1, P0, P1, hcs, _, hl, hm, hz, _, hcell⟩
  · simp [Value.cells] at hcs
    obtain ⟨rfl, rfl, rfl⟩ := hcs
    exact ⟨fun _ => false, fun _ => 0, fun k hk => absurd hk (by omega)⟩
  · simp [Value.cells] at hcs
    obtain ⟨rfl, rfl, rfl⟩ := hcs
    have hz' : m = cap := by simpa using hz
    have hb : ∀ i, i < len → ∃ b : Bool, V0 i = .bool b := fun i hi => by
      obtain ⟨b, e, _⟩ := DataW.trod_bool Ybad.underlying4 (hcell i (by omega)).2.2.1
      exact ⟨b, by simpa using e⟩
    have hi : ∀ i, i < len → ∃ z : Int, V1 i = .int .i64 z := fun i hi => by
      obtain ⟨z, e, _⟩ := DataW.trod_int Ybad.underlying2 (hcell i (by omega)).2.2.2
      exact ⟨z, by simpa using e⟩
    obtain ⟨sec, hsec⟩ := Go.Deep.choose_lt (p := fun i b => V0 i = .bool b) hb
    obtain ⟨z, hzz⟩ := Go.Deep.choose_lt (p := fun i b => V1 i = .int .i64 b) hi
    refine ⟨sec, z, fun k hk => ?_⟩
    obtain ⟨h0, h1, _, _⟩ := hcell k (by omega)
    obtain ⟨b, off, spot⟩ := x
    have hspot : spot = none := by
      have h00 := (hcell 0 (by omega)).1
      simpa [Addr.add] using World.cell?_spot h00
    subst hspot
    rw [Addr.add_mid] at h0 h1
    rw [hsec k hk] at h0
    rw [hzz k hk] at h1
    exact ⟨b, off, rfl, block_lt_of_cell h0, h0, by rw [Nat.add_assoc]; exact h1⟩

theorem gT : Ybad.prog.globalNamed "example.com/homeward/homeward.securityCheckTimer" = some 0 := by kernel_rfl
theorem tT : (Ybad.prog.globals[0]?).map (·.type) = some 36 := by kernel_rfl
set_option maxRecDepth 100000 in
/-- What the condition gives the walk: the timer of a failed check. -/
theorem glob_of_laid {W : World} (h : laidMetH Ybad.prog laidL W) : Glob W := by
  rw [MakeChecks.laidMetH_plain _ _ _ (by kernel_rfl)] at h
  obtain ⟨ps, ⟨g0, t0, cs0, f0, p0, q0, hg0, ht0, hv0, hd0, _⟩, _, _⟩ := h
  obtain rfl := Option.some.inj (gT.symm.trans hg0)
  obtain rfl := Option.some.inj (tT.symm.trans ht0)
  obtain ⟨y0, y1, y2, n, hx, hl, h0, h1, h2⟩ := Go.Deep.trod_struct3 Ybad.underlying36 hd0
  have c36 : Ybad.prog.cellsOf 36 = 3 := by kernel_rfl
  have e5 : Ybad.prog.cellsOf 5 = 1 := by kernel_rfl
  have e31 : Ybad.prog.cellsOf 31 = 1 := by kernel_rfl
  have e4 : Ybad.prog.cellsOf 4 = 1 := by kernel_rfl
  obtain ⟨l⟩ := cs0
  rw [c36] at hl
  simp only [Prod.mk.injEq] at hx
  match l, hl with
  | [c0, c1, c2], _ =>
    simp only [e5, e31, e4, List.drop_zero, List.take_succ_cons, List.take_zero, List.drop_succ_cons] at h0 h1 h2
    obtain ⟨a, e0, rfl, _⟩ := DataW.trod_int Ybad.underlying5 h0
    obtain ⟨b, e1, rfl, _⟩ := DataW.trod_string Ybad.underlying31 h1
    obtain ⟨c, e2, rfl⟩ := DataW.trod_bool Ybad.underlying4 h2
    have hx1 := hx.1
    simp only [Rows.laid_example_com_homeward_homeward_securityCheckTimer, DataW.agg.injEq, List.cons.injEq, DataW.lit.injEq, Lit.int.injEq, Lit.string.injEq, Lit.bool.injEq, true_and, and_true] at hx1
    obtain ⟨ha, hb, hc⟩ := hx1
    have hbb : b = ⟨#[]⟩ := by
      obtain ⟨bd⟩ := b
      have : bd = #[] := by
        apply Array.eq_empty_of_size_eq_zero
        have := congrArg List.length hb
        simpa using this.symm
      rw [this]
    simp only [List.cons.injEq, and_true] at e0 e1 e2
    have v0 := World.var?_cell hg0 hv0 0
    have v1 := World.var?_cell hg0 hv0 1
    have v2 := World.var?_cell hg0 hv0 2
    refine ⟨?_, ?_, ?_⟩
    · rw [v0, ha, ← e0]; rfl
    · rw [v1, ← hbb, ← e1]; rfl
    · rw [v2, hc, ← e2]; rfl
theorem heap_of_glob {W : World} (h : Glob W) : 0 < W.heap.size := block_lt_of_cell h.1

theorem lawW_all (nS : Nat) (sa ra : Option Addr) (sl sc rl rc : Nat) (fs : Nat → ByteArray) (sec : Nat → Bool) (d : Nat → Int) (w : World) (hS : nS ≤ 255) (hl0 : 0 < w.heap.size) (hG : Glob w)
    (hs : In w w.heap.size sa sl (fun k => .string (fs k))) (hr : In2 w w.heap.size ra rl sec d) :
    Calls Ybad.prog 4 #[.int .u8 nS, .slice sa sl sc, .slice ra rl rc] w fun e w' => e = .returned (.bool true) ∧ Below w.heap.size w w' := by
  by_cases h : 1024 < sl ∨ 1024 < rl
  · exact lawW_long nS sa ra sl sc rl rc w h
  · exact lawW_in nS (nS % 3 + 1) sa ra sl sc rl rc fs sec d w hS (by omega) (by omega) (by omega) hl0 hG hs hr

set_option maxRecDepth 100000 in
theorem liftedW (os : Os) (started : os.Started) (H : Type) (enc : TypeId × Value → H) :
    ReturnsInHanded {} Ybad.checked os 4 .any (fun w args => (Rows.lawS0902AWaitWithRulesSpec.pre enc Ybad.prog Ybad.f4 [] false w args ∧ laidMetH Ybad.prog laidL w) ∧ sizedMet enc Ybad.prog Ybad.f4 (OpenSpec.ofChange Rows.lawS0902AWaitWithRulesSpec) false w args)
      (Rows.lawS0902AWaitWithRulesSpec.post enc Ybad.prog Ybad.f4 false true false false) := by
  refine returnsInHanded_of_change_and (C := Ybad.checked) (X := fun w _ => laidMetH Ybad.prog laidL w) (fun _ _ _ hh h => h.of_heap hh) own started (by kernel_rfl) Ybad.func4
    (ChangeSpec.witness_shaped (enc := enc) (C := Ybad.checked) (os := os) (X := fun w _ => laidMetH Ybad.prog laidL w) false (World.doorLaid Ybad.prog 400 os) #[.int .u8 0, .slice none 0 0, .slice none 0 0] 8 rfl (World.shaped_of_RefB (by kernel_rfl) (by kernel_rfl)) (by kernel_rfl) (by kernel_rfl) (by kernel_rfl) (door_met os _)) ?_
  intro W base args ds gs before hval0 hW _ _ hL _
  have hval : ∀ (j : Nat) t v, Ybad.f4.params[j]? = some t → args[j]? = some v → Value.okWide Ybad.prog W .any base t v := hval0
  have hW' := hW
  obtain ⟨p, q, hA0, hV, rfl, hfz, hnd⟩ := hW
  have hA : DataW.TrodAll enc Ybad.prog W 0 (fun _ => true) true Ybad.f4.params.toList args.toList ds p := hA0
  rw [Ybad.params4] at hA hval
  obtain ⟨v0, vs0, d0, ds0, p0, q0, hargs, rfl, rfl, h0, r0⟩ := trodAll_cons hA
  obtain ⟨v1, vs1, d1, ds1, p1, q1, rfl, rfl, rfl, h1, r1⟩ := trodAll_cons r0
  obtain ⟨v2, vs2, d2, ds2, p2, q2, rfl, rfl, rfl, h2, r2⟩ := trodAll_cons r1
  obtain ⟨rfl, rfl, rfl⟩ := trodAll_nil r2
  obtain rfl : args = #[v0, v1, v2] := by cases args; simp_all
  have hV0 : DataW.TrodVars enc Ybad.prog W (fun _ => true) ["example.com/homeward/homeward.countries", "example.com/homeward/homeward.classClauses", "example.com/homeward/homeward.securityCheckTimer"] gs q := hV
  obtain ⟨g0, g1, g2, rfl⟩ := trodVars3 hV0
  obtain ⟨a0, rfl, rfl, rfl, w0⟩ := open_int Ybad.underlying5 (hval 0 5 v0 rfl rfl) h0
  obtain ⟨a1, len1, cap1, rfl⟩ := okWide_slice Ybad.underlying22 (hval 1 22 v1 rfl rfl)
  obtain ⟨a2, len2, cap2, rfl⟩ := okWide_slice Ybad.underlying83 (hval 2 83 v2 rfl rfl)
  have lt1 : ∀ x ∈ p1, x.block < W.heap.size := by obtain ⟨m, hm⟩ := h1; exact DataW.trod_lt m _ _ _ hm
  have lt2 : ∀ x ∈ p2, x.block < W.heap.size := by obtain ⟨m, hm⟩ := h2; exact DataW.trod_lt m _ _ _ hm
  obtain ⟨fs, hs⟩ := in_strings Ybad.underlying22 Ybad.underlying9 (by kernel_rfl) h1
  obtain ⟨sec, fd, hd⟩ := in_rules h2
  have hb0 := bounds_u8 w0
  obtain ⟨nS, rfl⟩ := Int.eq_ofNat_of_zero_le hb0.1
  have hG := glob_of_laid hL
  clear hA0 hval0
  refine (lawW_all nS a1 a2 len1 cap1 len2 cap2 fs sec fd W (by omega) (heap_of_glob hG) hG hs hd).mono fun e W' ⟨he, bel⟩ => ?_
  subst he
  exact ⟨_, rfl, _, _, _, [], _, _, hW', trodAll_mk1 (shut_bool Ybad.underlying4 _), (trodAll_cons_mk (shut_int Ybad.underlying5 w0) (trodAll_cons_mk (Below.trod laidOut (by kernel_rfl) (of_decide_eq_true (by kernel_rfl)) h1 bel lt1) (trodAll_cons_mk (Below.trod laidOut (by kernel_rfl) (of_decide_eq_true (by kernel_rfl)) h2 bel lt2) trodAll_mk0))), Below.trodVars laidOut bel (by kernel_rfl) hV0, bel.frame _, fun h => by cases h⟩

theorem rowW : Rows.LawS0902AWaitWithRulesSaid :=
  OpenClaim.holds_of_wide 4 Ybad.f4 rfl rfl rfl rfl rfl rfl rfl ⟨rfl, rfl, rfl, rfl, rfl⟩ rfl rfl rfl rfl rfl (by kernel_rfl) Ybad.func4 (by kernel_rfl)
    (of_decide_eq_true (by kernel_rfl)) (by unfold Func.isWrapper; first | (rw [if_pos (by decide +kernel)]; kernel_rfl) | (rw [if_neg (by decide +kernel)]; exact ⟨rfl, rfl⟩))
    (fun os started H enc _ => liftedW os started H enc)

/-- THE STATEMENT. -/
theorem lawS0902AWaitWithRules_proved : Rows.LawS0902AWaitWithRulesCardSaid :=
  Claim7.holds_tied_plain_at .later [] [.data, .data, .zeroDeep] true (true, "c305973bacdb5fbc3cb536458c48d12d95db715990c8e2e8ae2dd802e0f1222a") true
    rowW (fun _ h => by cases h) (by kernel_rfl) (fun _ h => by cases h) lawS0902AWaitWithRules_row_tie rfl ⟨rfl, rfl⟩ (by kernel_rfl) rfl
    (fun f fn hf hfn => by
      obtain rfl : f = 4 := Option.some.inj ((show Ybad.prog.funcNamed "example.com/homeward/homeward.LawS0902AWaitWithRules" = some 4 by kernel_rfl).symm.trans hf) |>.symm
      obtain rfl : fn = Ybad.f4 := (Option.some.inj (Ybad.func4.symm.trans hfn)).symm
      exact ⟨by kernel_rfl, fun j t ht => by
        rw [Ybad.params4] at ht
        have hm : t ∈ [5, 22, 83] := by simpa using Array.mem_of_getElem? ht
        have hall : ([5, 22, 83].all fun u => !Ybad.prog.wantsStandIn u) = true := by kernel_rfl
        exact (show Ybad.prog.wantsStandIn t = false by simpa using List.all_eq_true.1 hall t hm)⟩)
    (by kernel_rfl)
end Go.Proofs.YbulkrqsDoor
