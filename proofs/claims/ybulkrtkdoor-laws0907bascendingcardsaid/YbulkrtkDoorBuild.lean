/-
  Seat b0907aD. From what the variables are laid as to what the walks ask; the witness' world.
-/
import Derived.Test.YbulkrtkDoorFixed
import Derived.Test.YbulkrtkDoorTie
import Derived.Test.YbulkrtkDoorCards
import Derived.ProofKit
import Derived.LaidMore
import Derived.LaidSub
import Derived.OpenShut
import Derived.OpenVars
import Derived.ShutString
import Derived.Deep.Strs
import Derived.Stop.Joined
import Derived.SevenTiedAt
namespace Go.Proofs.YbulkrtkDoor
open Go.ChangeShapes Go.WideShapes Go.ChangeAt Go.WideMaps Go.WideElems Go.RowKit

theorem own : ownKnob Ybad.prog.godebug = none := by kernel_rfl
theorem laidOut : laidOutB Ybad.prog = true := by kernel_rfl
def laidL : List (String × DataW Unit) := [("math/bits.deBruijn32tab", Rows.laid_math_bits_deBruijn32tab), ("math/bits.deBruijn64tab", Rows.laid_math_bits_deBruijn64tab), ("internal/strconv.uint64pow10", Rows.laid_internal_strconv_uint64pow10), ("example.com/hailstone/hailstone.errTimeRanOut", Rows.laid_example_com_hailstone_hailstone_errTimeRanOut), ("example.com/hailstone/hailstone.layouts", Rows.laid_example_com_hailstone_hailstone_layouts)]

/-- The door's own heap meets the condition. -/
theorem door_met (os : Os) (args : Array Value) : laidMetH Ybad.prog laidL ((World.doorLaid Ybad.prog 400 os).forCall (fun _ _ => 0) ⟨#[], args, []⟩).memory :=
  laidMetH_of_parts3 (fuel := 8) (laidMet_of_run' 8 (by kernel_rfl) (by kernel_rfl)) (by kernel_rfl) (by kernel_rfl)

theorem trodVars2 {H : Type} {enc : TypeId × Value → H} {P : Program} {w : World} {sp : Nat → Bool} {n0 n1 : String} {gs : List (DataW H)} {ps : List MemPlace} (h : DataW.TrodVars enc P w sp [n0, n1] gs ps) : ∃ g0 g1, gs = [g0, g1] := by
  match gs, h with
  | [g0, g1], _ => exact ⟨g0, g1, rfl⟩
  | [], h => exact h.elim
  | [_], h => obtain ⟨_, _, _, _, _, _, _, _, _, _, h, _⟩ := h; exact h.elim
  | _ :: _ :: _ :: _, h => obtain ⟨_, _, _, _, _, _, _, _, _, _, ⟨_, _, _, _, _, _, _, _, _, _, h, _⟩, _⟩ := h; exact h.elim

theorem gT : Ybad.prog.globalNamed "example.com/hailstone/hailstone.layouts" = some 1 := by kernel_rfl
theorem tT : (Ybad.prog.globals[1]?).map (·.type) = some 61 := by kernel_rfl
set_option maxRecDepth 100000 in
/-- What the condition gives the walk: the first row of 'layouts'. -/
theorem glob_of_laid {W : World} (h : laidMetH Ybad.prog laidL W) : Glob W := by
  have h := h.filter (fun x => x.1 == "example.com/hailstone/hailstone.layouts")
  rw [show laidL.filter (fun x => x.1 == "example.com/hailstone/hailstone.layouts") = [("example.com/hailstone/hailstone.layouts", Rows.laid_example_com_hailstone_hailstone_layouts)] by rfl] at h
  rw [MakeChecks.laidMetH_plain _ _ _ (by kernel_rfl)] at h
  obtain ⟨ps, ⟨g0, t0, cs0, f0, p0, q0, hg0, ht0, hv0, hd0, _⟩, _, _⟩ := h
  obtain rfl := Option.some.inj (gT.symm.trans hg0)
  obtain rfl := Option.some.inj (tT.symm.trans ht0)
  obtain ⟨xs, m, _, hx, hl, hxl, hel⟩ := DataW.trod_array Ybad.underlying61 hd0
  have c61 : Ybad.prog.cellsOf 61 = 10 := by kernel_rfl
  have c60 : Ybad.prog.cellsOf 60 = 5 := by kernel_rfl
  obtain ⟨l⟩ := cs0
  rw [c61] at hl
  rw [c60] at hel
  match xs, hxl with
  | [x0, x1], _ =>
    have h0 : DataW.trod _ Ybad.prog W 0 _ _ m 60 ((l.drop (0 * 5)).take 5) = some x0 := hel 0 (by omega)
    obtain ⟨y0, y1, y2, n, hy, hly, k0, k1, k2⟩ := Go.Deep.trod_struct3 Ybad.underlying60 h0
    obtain ⟨z0, z1, z2, n', hz, hlz, j0, j1, j2⟩ := Go.Deep.trod_struct3 Ybad.underlying40 k2
    have e40 : Ybad.prog.cellsOf 40 = 3 := by kernel_rfl
    have e32 : Ybad.prog.cellsOf 32 = 1 := by kernel_rfl
    have e2 : Ybad.prog.cellsOf 2 = 1 := by kernel_rfl
    match l, hl with
    | [c0, c1, c2, c3, c4, c5, c6, c7, c8, c9], _ =>
      simp only [e2, e40, e32, Nat.zero_mul, List.drop_zero, List.take_succ_cons, List.take_zero, List.drop_succ_cons] at k1 j0 j1 j2
      obtain ⟨a1, m1, rfl, _⟩ := DataW.trod_int Ybad.underlying2 k1
      obtain ⟨a2, m2, rfl, _⟩ := DataW.trod_int Ybad.underlying32 j0
      obtain ⟨a3, m3, rfl, _⟩ := DataW.trod_int Ybad.underlying32 j1
      obtain ⟨a4, m4, rfl, _⟩ := DataW.trod_int Ybad.underlying32 j2
      subst hz
      subst hy
      have hx1 := (Prod.mk.inj hx).1
      simp only [Rows.laid_example_com_hailstone_hailstone_layouts, List.map_cons, List.map_nil, DataW.agg.injEq, List.cons.injEq, DataW.lit.injEq, Lit.int.injEq, true_and, and_true] at hx1
      simp only [List.cons.injEq, and_true] at m1 m2 m3 m4
      obtain ⟨⟨_, ha1, ha2, ha3, ha4⟩, _⟩ := hx1
      refine ⟨?_, ?_, ?_, ?_⟩
      · rw [World.var?_cell hg0 hv0 1, ha1, ← m1]; rfl
      · rw [World.var?_cell hg0 hv0 2, ha2, ← m2]; rfl
      · rw [World.var?_cell hg0 hv0 3, ha3, ← m3]; rfl
      · rw [World.var?_cell hg0 hv0 4, ha4, ← m4]; rfl
end Go.Proofs.YbulkrtkDoor
