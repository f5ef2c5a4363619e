/-
  Seat b0905a. 'Rows.LawS0905CMatchesPathsSaid' PROVED: from the walk to the row. The frame after the guide's shell for a law over slices.
-/
import Derived.Test.YbulkrsiLaw
import Derived.ProofKit
import Derived.OpenShut
import Derived.ShutString
import Derived.ChangeOld
import Derived.Below
import Derived.Deep.Slices
namespace Go.Proofs.Ybulkrsi.lawS0905CMatchesPaths
open Go.ChangeShapes Go.WideShapes Go.ChangeAt Go.RowKit Go.Deep

theorem own : ownKnob Yba.prog.godebug = none := by kernel_rfl
theorem laidOut : laidOutB Yba.prog = true := by kernel_rfl
theorem cells42 : Yba.prog.cellsOf 42 = 2 := by kernel_rfl
theorem cells5 : Yba.prog.cellsOf 5 = 1 := by kernel_rfl

theorem law_all (n : Nat) (la ca : Option Addr) (ll lc cl cc : Nat) (flip : Bool) (f0 f1 f : Nat → Nat) (w : World) (hn : n ≤ 255) (hL : InL w w.heap.size la ll f0 f1) (hC : InB w w.heap.size ca cl f) :
    Calls Yba.prog 5 #[.int .u8 n, .slice la ll lc, .slice ca cl cc, .bool flip] w fun e w' => e = .returned (.bool true) ∧ Below w.heap.size w w' := by
  by_cases h1 : 1024 < ll ∨ 1024 < cl
  · exact law_long _ _ la ca ll lc cl cc w h1
  · exact law_any n la ca ll lc cl cc flip f0 f1 f w hn (by omega) (by omega) hL hC

/-- A slice of bytes that came in. -/
theorem in_bytes {H : Type} {enc : TypeId × Value → H} {W : World} {p : List MemPlace} {d : DataW H} {a : Option Addr} {len cap : Nat}
    (h : DataW.Trod enc Yba.prog W 0 (fun _ => true) true 22 (.slice a len cap) d p) : ∃ f : Nat → Nat, InB W W.heap.size a len f := by
  obtain ⟨fuel, hf⟩ := h
  rcases open_ints Yba.underlying22 Yba.underlying5 cells5 hf with ⟨hcs, _⟩ | ⟨x, l, c, zs, hcs, _, hl, hm, hz, _, hcell, hwz⟩
  · simp [Value.cells] at hcs
    obtain ⟨rfl, rfl, rfl⟩ := hcs
    exact ⟨fun _ => 0, fun k hk => absurd hk (by omega)⟩
  · simp [Value.cells] at hcs
    obtain ⟨rfl, rfl, rfl⟩ := hcs
    have hz' : zs.length = cap := by simpa using hz
    refine ⟨fun k => (zs.getD k 0).toNat, fun k hk => ?_⟩
    have hmem : zs.getD k 0 ∈ zs := by
      rw [List.getD_eq_getElem?_getD, List.getElem?_eq_getElem (by omega)]
      exact List.getElem_mem _
    have hb := bounds_u8 (hwz _ hmem)
    have hc := hcell k (by omega)
    have h0 := hcell 0 (by omega)
    obtain ⟨b, off, spot⟩ := x
    have hspot : spot = none := by simpa [Addr.add] using World.cell?_spot h0
    subst hspot
    rw [Addr.add_mid] at hc
    have he : (((zs.getD k 0).toNat : Nat) : Int) = zs.getD k 0 := by omega
    exact ⟨b, off, rfl, block_lt_of_cell hc, by rw [he]; exact hc, by show (zs.getD k 0).toNat < 256; omega⟩

/-- A slice of pairs of bytes that came in. -/
theorem in_pairs {H : Type} {enc : TypeId × Value → H} {W : World} {p : List MemPlace} {d : DataW H} {a : Option Addr} {len cap : Nat}
    (h : DataW.Trod enc Yba.prog W 0 (fun _ => true) true 29 (.slice a len cap) d p) : ∃ f0 f1 : Nat → Nat, InL W W.heap.size a len f0 f1 := by
  obtain ⟨fuel, hf⟩ := h
  rcases open_slice Yba.underlying29 hf with ⟨hcs, _⟩ | ⟨x, l, c, m, n, D, Pl, hcs, _, hl, hm, hmm, _, hx⟩
  · simp [Value.cells] at hcs
    obtain ⟨rfl, rfl, rfl⟩ := hcs
    exact ⟨fun _ => 0, fun _ => 0, fun k hk => absurd hk (by omega)⟩
  · simp [Value.cells] at hcs
    obtain ⟨rfl, rfl, rfl⟩ := hcs
    have hmm' : m = cap := by simpa using hmm
    have each : ∀ k, k < len → ∃ q : Nat × Nat, ∃ b off, some x = some ⟨b, off, none⟩ ∧ b < W.heap.size ∧ W.cell? ⟨b, off + k * 2, none⟩ = some (.int .u8 (q.1 : Nat)) ∧ W.cell? ⟨b, off + k * 2 + 1, none⟩ = some (.int .u8 (q.2 : Nat)) ∧ q.1 < 256 ∧ q.2 < 256 := by
      intro k hk
      have hsp : x.spot = none := by
        obtain ⟨cs', h1, _⟩ := hx 0 (by omega)
        rw [cells42] at h1
        obtain ⟨_, hlen, hcell⟩ := World.cells?_some h1
        have c0 := hcell 0 (by omega)
        rw [List.getElem?_eq_getElem (by omega)] at c0
        simpa [Addr.add] using World.cell?_spot c0
      obtain ⟨cs', h1, h2⟩ := hx k (by omega)
      rw [cells42] at h1
      obtain ⟨_, hlen, hcell⟩ := World.cells?_some h1
      obtain ⟨xs, j, _, _, _, hxl, hel⟩ := DataW.trod_array Yba.underlying42 h2
      match xs, hxl, cs', hlen, hcell with
      | [y0, y1], _, [v0, v1], _, hcell =>
        have g0 := hel 0 (by omega)
        have g1 := hel 1 (by omega)
        simp [cells5] at g0 g1
        obtain ⟨n0, e0, _, w0⟩ := DataW.trod_int Yba.underlying5 g0
        obtain ⟨n1, e1, _, w1⟩ := DataW.trod_int Yba.underlying5 g1
        simp at e0 e1
        subst e0 e1
        have b0 := bounds_u8 w0
        have b1 := bounds_u8 w1
        have c0 := hcell 0 (by omega)
        have c1 := hcell 1 (by omega)
        simp at c0 c1
        obtain ⟨b, off, spot⟩ := x
        have hspot : spot = none := hsp
        subst hspot
        rw [Addr.add_mid] at c0
        rw [Addr.add_mid, Addr.add_mid] at c1
        have q0 : ((n0.toNat : Nat) : Int) = n0 := by omega
        have q1 : ((n1.toNat : Nat) : Int) = n1 := by omega
        exact ⟨(n0.toNat, n1.toNat), b, off, rfl, block_lt_of_cell c1, by rw [q0]; exact c0, by rw [q1]; exact c1, by show n0.toNat < 256; omega, by show n1.toNat < 256; omega⟩
    refine ⟨fun k => if hk : k < len then (Classical.choose (each k hk)).1 else 0, fun k => if hk : k < len then (Classical.choose (each k hk)).2 else 0, fun k hk => ?_⟩
    have := Classical.choose_spec (each k hk)
    simpa only [dif_pos hk] using this

set_option maxRecDepth 100000 in
theorem lifted (os : Os) (started : os.Started) (H : Type) (enc : TypeId × Value → H) :
    ReturnsInHanded {} Yba.checked os 5 .any (Rows.lawS0905CMatchesPathsSpec.pre6 enc Yba.prog Yba.f5 Rows.lawS0905CMatchesPathsRow.domain false) (Rows.lawS0905CMatchesPathsSpec.post enc Yba.prog Yba.f5 false true false false) := by
  refine returnsInHanded_of_change (C := Yba.checked) own started (by kernel_rfl) Yba.func5
    (ChangeSpec.witness6 (enc := enc) (C := Yba.checked) false ⟨#[], #[.int .u8 0, .slice none 0 0, .slice none 0 0, .bool false], []⟩ 8 (by kernel_rfl) (by kernel_rfl) (by kernel_rfl) (by kernel_rfl)) ?_
  intro W base args ds gs before hval0 hW hcnd _
  have hval : ∀ (j : Nat) t v, Yba.f5.params[j]? = some t → args[j]? = some v → Value.okWide Yba.prog W .any base t v := hval0
  have hW' := hW
  obtain ⟨p, q, hA0, hV, rfl, hfz, hnd⟩ := hW
  have hA : DataW.TrodAll enc Yba.prog W 0 (fun _ => true) true Yba.f5.params.toList args.toList ds p := hA0
  rw [Yba.params5] at hA hval
  obtain ⟨v0, vs0, d0, ds0, p0, q0, hargs, rfl, rfl, h0, r0⟩ := trodAll_cons hA
  obtain ⟨v1, vs1, d1, ds1, p1, q1, rfl, rfl, rfl, h1, r1⟩ := trodAll_cons r0
  obtain ⟨v2, vs2, d2, ds2, p2, q2, rfl, rfl, rfl, h2, r2⟩ := trodAll_cons r1
  obtain ⟨v3, vs3, d3, ds3, p3, q3, rfl, rfl, rfl, h3, r3⟩ := trodAll_cons r2
  obtain ⟨rfl, rfl, rfl⟩ := trodAll_nil r3
  obtain rfl : args = #[v0, v1, v2, v3] := by cases args; simp_all
  obtain ⟨rfl, rfl⟩ := trodVars_none hV
  obtain ⟨n, rfl, rfl, rfl, hwf⟩ := open_int Yba.underlying5 (hval 0 5 v0 rfl rfl) h0
  obtain ⟨a1, len1, cap1, rfl⟩ := okWide_slice Yba.underlying29 (hval 1 29 v1 rfl rfl)
  obtain ⟨a2, len2, cap2, rfl⟩ := okWide_slice Yba.underlying22 (hval 2 22 v2 rfl rfl)
  obtain ⟨flip, rfl, rfl, rfl⟩ := open_bool Yba.underlying4 (hval 3 4 v3 rfl rfl) h3
  have hb := bounds_u8 hwf
  obtain ⟨n, rfl⟩ : ∃ m : Nat, n = (m : Int) := ⟨n.toNat, by omega⟩
  have k0 := h0
  have k1 := h1
  have lt1 : ∀ x ∈ p1, x.block < W.heap.size := by obtain ⟨m, hm⟩ := k1; exact DataW.trod_lt m _ _ _ hm
  have k2 := h2
  have lt2 : ∀ x ∈ p2, x.block < W.heap.size := by obtain ⟨m, hm⟩ := k2; exact DataW.trod_lt m _ _ _ hm
  have k3 := h3
  obtain ⟨f0, f1, hL⟩ := in_pairs h1
  obtain ⟨f, hC⟩ := in_bytes h2
  clear hA0 hval0
  refine (law_all n a1 a2 len1 cap1 len2 cap2 flip f0 f1 f W (by omega) hL hC).mono fun e W' ⟨he, bel⟩ => ?_
  subst he
  exact ⟨_, rfl, _, _, _, [], _, [], hW', trodAll_mk1 (shut_bool Yba.underlying4 _),
    (trodAll_cons_mk (Below.trod laidOut (by kernel_rfl) (of_decide_eq_true (by kernel_rfl)) k0 bel (by simp)) (trodAll_cons_mk (Below.trod laidOut (by kernel_rfl) (of_decide_eq_true (by kernel_rfl)) k1 bel lt1) (trodAll_cons_mk (Below.trod laidOut (by kernel_rfl) (of_decide_eq_true (by kernel_rfl)) k2 bel lt2) (trodAll_cons_mk (Below.trod laidOut (by kernel_rfl) (of_decide_eq_true (by kernel_rfl)) k3 bel (by simp)) trodAll_mk0)))), rfl, bel.frame _, fun h => by cases h⟩

theorem over : Rows.lawS0905CMatchesPathsRow.holds Yba.pinned (OpenSpec.ofChange Rows.lawS0905CMatchesPathsSpec) :=
  OpenClaim.holds_of_wide 5 Yba.f5 rfl rfl rfl rfl rfl rfl rfl ⟨rfl, rfl, rfl, rfl, rfl⟩ rfl rfl rfl rfl rfl (by kernel_rfl) Yba.func5 (by kernel_rfl)
    (of_decide_eq_true (by kernel_rfl)) (by unfold Func.isWrapper; first | (rw [if_pos (by decide +kernel)]; kernel_rfl) | (rw [if_neg (by decide +kernel)]; exact ⟨rfl, rfl⟩))
    (fun os started H enc _ => lifted os started H enc)

end Go.Proofs.Ybulkrsi.lawS0905CMatchesPaths
namespace Go.Proofs.Ybulkrsi
/-- THE STATEMENT. -/
theorem lawS0905CMatchesPaths_proved : Rows.LawS0905CMatchesPathsSaid := lawS0905CMatchesPaths.over
end Go.Proofs.Ybulkrsi
