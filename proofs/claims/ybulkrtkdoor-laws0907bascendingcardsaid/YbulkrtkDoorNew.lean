/-
  Seat b0907aD. newGenerator (function 6), at the layout Classic.
-/
import Derived.Test.YbulkrtkDoorGen
namespace Go.Proofs.YbulkrtkDoor
open Go.RowKit

/-- The generator's cells: its clock, its worker number in place, the newest ID. -/
def genC (cl : Value) (wk nw : Int) : Array Value := #[cl, .int .i64 2199023255551, .int .i64 4095, .int .u64 22, .int .i64 wk, .pointer none, .int .i64 0, .int .u8 0, .int .u8 0, .int .u8 0, .int .u8 0, .int .u8 0, .int .u8 0, .int .u8 0, .int .u8 0, .int .u8 0, .int .u8 0, .int .u8 0, .int .u8 0, .int .u8 0, .int .u8 0, .int .u8 0, .int .u8 0, .int .u8 0, .int .u8 0, .int .u8 0, .int .u8 0, .int .u8 0, .int .u8 0, .int .u8 0, .int .u8 0, .int .u8 0, .int .u8 0, .int .u8 0, .int .u8 0, .int .u8 0, .int .u8 0, .int .u8 0, .int .u8 0, .int .u8 0, .int .u8 0, .int .u8 0, .int .u8 0, .int .u8 0, .int .u8 0, .int .u8 0, .int .u8 0, .int .u8 0, .int .u8 0, .int .u8 0, .int .u8 0, .int .u8 0, .int .u8 0, .int .u8 0, .int .u8 0, .int .u8 0, .int .u8 0, .int .u8 0, .int .u8 0, .int .u8 0, .int .u8 0, .int .u8 0, .int .u8 0, .int .u8 0, .int .u8 0, .int .u8 0, .int .u8 0, .int .u8 0, .int .u8 0, .int .u8 0, .int .u8 0, .int .i64 nw]
def GAt (w : World) (G : Nat) (cl : Value) (wk nw : Int) : Prop := At w G (.cells (genC cl wk nw) 52 (0, 0))

set_option maxHeartbeats 2000000 in
set_option maxRecDepth 100000 in
theorem new_any (f : FuncId) (cap : Array Value) (W u : Int) (w : World) (hW : 0 ≤ W ∧ W < 1024) (hu : 0 ≤ u ∧ u ≤ 2199023255551) (hG : Glob w) :
    Calls Ybad.prog 6 #[.int .u8 0, .int .i64 W, .func (.func f) #[] cap, .int .i64 u] w fun e w' => ∃ G, e = .returned (.pointer (some ⟨G, 0, none⟩)) ∧ w.heap.size ≤ G ∧ Below w.heap.size w w' ∧
      GAt w' G (.func (.func f) #[] cap) (W * 4096) (u * 4194304 + W * 4096 + 4095) := by
  have hlt := hG.lt
  have HG : Hid (Glob w) := hG
  clear hG
  go_enter Ybad.func6, Ybad.ntmps6
  go_wp2_with fail
  refine (widths_any _ HG.out).mono ?_
  rintro e w1 ⟨rfl, hb1⟩
  have hs1 := hb1.size
  have HB1 : Hid (Below w.heap.size w w1) := hb1
  clear hb1
  go_wp2_with fail
  refine (unitMs_any _ ?_).mono ?_
  · exact HG.out.below (HB1.out.alloc hs1 _) hlt
  rintro e w2 ⟨rfl, hw⟩
  subst hw
  go_wp2_with fail
  have hgl : Glob (w1.alloc (.cells #[.int .u64 41, .int .u64 10, .int .u64 12] 40)) := HG.out.below (HB1.out.alloc hs1 _) hlt
  have HL : Hid (Glob (w1.alloc (.cells #[.int .u64 41, .int .u64 10, .int .u64 12] 40))) := hgl
  clear hgl
  go_region_held3 (fun w' => w'.cell? ⟨w1.heap.size, 1, none⟩ = some (.int .u64 10) ∧ w'.cell? ⟨w1.heap.size, 2, none⟩ = some (.int .u64 12))
    ((first | (go_keep; done) | (go_split_ands; (refine ⟨?_, ?_⟩) <;> (rw [hb.cell (by simp)]; assumption)) | fail))
    ((first | (go_at_call 14; refine (maxTime_any _ ?_).mono ?_; exact HL.out; rintro e w3 ⟨rfl, hb⟩) | (go_at_call 15; refine (ones_12 _).mono ?_; rintro e w4 ⟨rfl, hw4⟩; subst hw4) | fail))
  have e22 : IntKind.u64.wrap 22 = 22 := by rfl
  have eW : IntKind.i64.wrap (W * 4096) = W * 4096 := by rw [IntKind.wrap_i64]; omega
  rw [e22, eW]
  have eC : ((((((Ybad.zeroCells52.setIfInBounds 0 (Value.func (Fn.func f) #[] cap)).setIfInBounds 1 (Value.int IntKind.i64 2199023255551)).setIfInBounds 2 (Value.int IntKind.i64 4095)).setIfInBounds 3 (Value.int IntKind.u64 22)).setIfInBounds 4 (Value.int IntKind.i64 (W * 4096))).setIfInBounds 6 (Value.int IntKind.i64 0)) = genC (.func (.func f) #[] cap) (W * 4096) 0 := by rfl
  rw [eC]
  have hg4 : w1.heap.size < w4.heap.size := by have h := hb.size; have h2 : (w1.alloc (.cells #[.int .u64 41, .int .u64 10, .int .u64 12] 40)).heap.size ≤ w4.heap.size := h; rw [World.size_alloc] at h2; omega
  have HB5 : Hid (Below w.heap.size w (w4.alloc (.cells (genC (.func (.func f) #[] cap) (W * 4096) 0) 52))) := ((HB1.out.alloc hs1 _).drew.trans (hb.mono (by show _ ≤ (w1.alloc _).heap.size; simp; omega))).alloc (by omega) _
  have hA : GAt (w4.alloc (.cells (genC (.func (.func f) #[] cap) (W * 4096) 0) 52)) w4.heap.size (.func (.func f) #[] cap) (W * 4096) 0 := At.new _ _
  generalize hw5 : w4.alloc (.cells (genC (.func (.func f) #[] cap) (W * 4096) 0) 52) = w5
  rw [hw5] at HB5 hA
  generalize hgG : w4.heap.size = G
  rw [hgG] at hA
  have hGG : w.heap.size ≤ G := by omega
  clear hw5 hgG hg4 eC eW e22 hb HL
  have c2 : w5.cell? ⟨G, 2, none⟩ = some (.int .i64 4095) := (hA.cell 2).trans rfl
  have c3 : w5.cell? ⟨G, 3, none⟩ = some (.int .u64 22) := (hA.cell 3).trans rfl
  have c4 : w5.cell? ⟨G, 4, none⟩ = some (.int .i64 (W * 4096)) := (hA.cell 4).trans rfl
  have c71 : w5.cell? ⟨G, 71, none⟩ = some (.int .i64 0) := (hA.cell 71).trans rfl
  have f71 : w5.frozen? ⟨G, 71, none⟩ = false := hA.free 71
  have HA : Hid (GAt w5 G (.func (.func f) #[] cap) (W * 4096) 0) := hA
  clear hA
  go_wp2_with fail
  go_region_held3 (fun w' => w'.cell? ⟨G, 2, none⟩ = some (.int .i64 4095) ∧ w'.cell? ⟨G, 3, none⟩ = some (.int .u64 22) ∧ w'.cell? ⟨G, 4, none⟩ = some (.int .i64 (W * 4096)))
    ((first | (go_keep; done) | (go_split_ands; (refine ⟨?_, ?_, ?_⟩) <;> exact (World.cell?_setCell_other _ _ _ _ (by simp)).trans (by assumption)) | fail))
    ((first | (go_at_call 16; refine (store_any _ _ 0 _ _ ?_ ?_).mono ?_; exact c71; exact f71; rintro e w6 ⟨rfl, hw6⟩; subst hw6) | fail))
  have e1 : IntKind.i64.wrap (u * 4194304) = u * 4194304 := by rw [IntKind.wrap_i64]; omega
  rw [e1, or_22 u (W * 4096) hu.1 (by omega) (by omega) (by omega), show u * 4194304 + W * 4096 = (u * 1024 + W) * 4096 by omega, or_12 _ 4095 (by omega) (by omega) (by omega) (by omega), show (u * 1024 + W) * 4096 + 4095 = u * 4194304 + W * 4096 + 4095 by omega]
  have HZ : Hid (GAt (w5.setCell ⟨G, 71, none⟩ (.int .i64 (u * 4194304 + W * 4096 + 4095))) G (.func (.func f) #[] cap) (W * 4096) (u * 4194304 + W * 4096 + 4095)) := HA.out.set 71 _
  have HB6 : Hid (Below w.heap.size w (w5.setCell ⟨G, 71, none⟩ (.int .i64 (u * 4194304 + W * 4096 + 4095)))) := HB5.out.setCell hGG _
  go_wp2
  go_ret
  exact ⟨G, rfl, hGG, HB6.out.drew, HZ.out⟩
end Go.Proofs.YbulkrtkDoor
