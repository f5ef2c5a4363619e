/-
  Seat b0902aD. 'higherPriority' (function 8) at a UE that receives no cell: it finds none.
-/
import Derived.Test.YbulkrqsDoorBase
namespace Go.Proofs.YbulkrqsDoor
open Go.RowKit

set_option maxHeartbeats 2000000 in
set_option maxRecDepth 100000 in
theorem higher_none (U : Nat) (s : UEs) (w : World) (hU : UEAt w U s) :
    Calls Ybad.prog 8 #[.pointer (some ⟨U, 0, none⟩)] w fun e w' => e = .returned (.tuple #[.agg #[.int .i64 0, .string ⟨#[]⟩, .int .u8 0], .agg #[.int .u8 0, .int .i64 0], .bool false]) ∧ Below w.heap.size w w' := by
  have h17 := hU.c17
  have h18 := hU.c18
  have h19 := hU.c19
  have hlt := hU.lt
  have hlt1 : U < w.heap.size + 1 := by omega
  have hlt2 : U < w.heap.size + 1 + 1 := by omega
  have hlt3 : U < w.heap.size + 1 + 1 + 1 := by omega
  have hU3 := ((At.alloc hU (.cells #[.pointer (some ⟨U, 0, none⟩)] 43)).alloc (.cells #[.int .i64 0, .string ⟨#[]⟩, .int .u8 0] 61)).alloc (.cells #[.int .u8 0, .int .i64 0] 97)
  have hB : At (((w.alloc (.cells #[.pointer (some ⟨U, 0, none⟩)] 43)).alloc (.cells #[.int .i64 0, .string ⟨#[]⟩, .int .u8 0] 61)).alloc (.cells #[.int .u8 0, .int .i64 0] 97)) w.heap.size (.cells #[.pointer (some ⟨U, 0, none⟩)] 43 (0, 0)) := ((At.new w _).alloc _).alloc _
  have hUE : UEAt (((w.alloc (.cells #[.pointer (some ⟨U, 0, none⟩)] 43)).alloc (.cells #[.int .i64 0, .string ⟨#[]⟩, .int .u8 0] 61)).alloc (.cells #[.int .u8 0, .int .i64 0] 97)) U s := hU3
  have hB1 : At (((w.alloc (.cells #[.pointer (some ⟨U, 0, none⟩)] 43)).alloc (.cells #[.int .i64 0, .string ⟨#[]⟩, .int .u8 0] 61)).alloc (.cells #[.int .u8 0, .int .i64 0] 97)) (w.heap.size + 1) (.cells #[.int .i64 0, .string ⟨#[]⟩, .int .u8 0] 61 (0, 0)) := by
    have := (At.new (w.alloc (.cells #[.pointer (some ⟨U, 0, none⟩)] 43)) (.cells #[.int .i64 0, .string ⟨#[]⟩, .int .u8 0] 61)).alloc (.cells #[.int .u8 0, .int .i64 0] 97)
    simpa using this
  have hB2 : At (((w.alloc (.cells #[.pointer (some ⟨U, 0, none⟩)] 43)).alloc (.cells #[.int .i64 0, .string ⟨#[]⟩, .int .u8 0] 61)).alloc (.cells #[.int .u8 0, .int .i64 0] 97)) (w.heap.size + 1 + 1) (.cells #[.int .u8 0, .int .i64 0] 97 (0, 0)) := by
    have := (At.new ((w.alloc (.cells #[.pointer (some ⟨U, 0, none⟩)] 43)).alloc (.cells #[.int .i64 0, .string ⟨#[]⟩, .int .u8 0] 61)) (.cells #[.int .u8 0, .int .i64 0] 97))
    simpa using this
  have bel3 : Below w.heap.size w (((w.alloc (.cells #[.pointer (some ⟨U, 0, none⟩)] 43)).alloc (.cells #[.int .i64 0, .string ⟨#[]⟩, .int .u8 0] 61)).alloc (.cells #[.int .u8 0, .int .i64 0] 97)) := (((Below.refl _ _).alloc (Nat.le_refl _) _).alloc (by simp) _).alloc (by simp <;> omega) _
  clear hU3
  go_enter Ybad.func8, Ybad.ntmps8
  go_wp2_with fail
  go_region_held3 (fun w' => w'.cell? ⟨w.heap.size, 0, none⟩ = some (.pointer (some ⟨U, 0, none⟩)) ∧ w'.cell? ⟨U, 17, none⟩ = some (.int .i64 0) ∧ w'.cell? ⟨U, 18, none⟩ = some (.string ⟨#[]⟩) ∧ w'.cell? ⟨U, 19, none⟩ = some (.int .u8 0))
    ((refine ⟨At.cell (C := #[.pointer (some ⟨U, 0, none⟩)]) (t := 43) ?_ 0, UEAt.c17 (s := s) ?_, UEAt.c18 (s := s) ?_, UEAt.c19 (s := s) ?_⟩) <;> (try unfold UEAt) <;> (repeat (first | exact hB | exact hUE | (refine At.other ?_ _ _ ?_; rotate_left; (simp; omega)) | (refine At.alloc ?_ _) | (refine At.below ?_ hb ?_; rotate_left; (simp; omega)) | (refine At.drew ?_))))
    ((go_at_call 12; refine (priority_any U s _ ?_).mono ?_; (unfold UEAt; repeat (first | exact hUE | (refine At.alloc ?_ _) | (refine At.drew ?_))); rintro e w1 ⟨rfl, hb⟩; obtain ⟨hbc, hbf⟩ := bcell hb))
  · obtain ⟨X, hX⟩ : ∃ X, X = (w1.alloc (.cells #[.int .u8 3, .int .i64 0] 97)) := ⟨_, rfl⟩
    rw [← hX]
    have g1 : At X w.heap.size (.cells #[.pointer (some ⟨U, 0, none⟩)] 43 (0, 0)) := by rw [hX]; exact (At.below (At.drew hB) hb (by simp <;> omega)).alloc _
    have g2 : UEAt X U s := by rw [hX]; exact (At.below (At.drew hUE) hb (by simp <;> omega)).alloc _
    have g3 : At X (w.heap.size + 1) (.cells #[.int .i64 0, .string ⟨#[]⟩, .int .u8 0] 61 (0, 0)) := by rw [hX]; exact (At.below (At.drew hB1) hb (by simp <;> omega)).alloc _
    have g4 : At X (w.heap.size + 1 + 1) (.cells #[.int .u8 0, .int .i64 0] 97 (0, 0)) := by rw [hX]; exact (At.below (At.drew hB2) hb (by simp <;> omega)).alloc _
    have g5 : Below w.heap.size w X := by rw [hX]; exact (bel3.drew.trans (hb.mono (by simp <;> omega))).alloc (by have := hb.size; simp at this; omega) _
    clear hX hb hbc hbf
    rename_i hh
    clear hh
    have c0 := g1.cell 0
    have G2 : Hid (UEAt X U s) := g2
    have G3 : Hid (At X (w.heap.size + 1) (.cells #[.int .i64 0, .string ⟨#[]⟩, .int .u8 0] 61 (0, 0))) := g3
    have G4 : Hid (At X (w.heap.size + 1 + 1) (.cells #[.int .u8 0, .int .i64 0] 97 (0, 0))) := g4
    have G5 : Hid (Below w.heap.size w X) := g5
    clear g1 g2 g3 g4 g5 hB hUE hB1 hB2 h17 h18 h19
    go_wp2_with fail
    refine (best_nil U s _ _ G2.out).mono ?_
    rintro e w2 ⟨rfl, hb⟩
    have g3 := At.below G3.out hb G3.out.lt
    have g4 := At.below G4.out hb G4.out.lt
    have k0 := g3.cell 0
    have k1 := g3.cell 1
    have k2 := g3.cell 2
    have k3 := g4.cell 0
    have k4 := g4.cell 1
    have l0 := g3.free 0
    have l1 := g3.free 1
    have l2 := g3.free 2
    have l3 := g4.free 0
    have l4 := g4.free 1
    have G6 : Hid (Below w.heap.size w w2) := G5.out.trans (hb.mono G5.out.size)
    clear g3 g4 hb G3 G4 G5 G2 c0
    go_wp2
    refine bodyPost_ret (v := .tuple #[.agg #[.int .i64 0, .string ⟨#[]⟩, .int .u8 0], .agg #[.int .u8 0, .int .i64 0], .bool false]) (by simp [results, Ybad.results8, go_sem, k0, k1, k2, k3, k4]) rfl ⟨rfl, ?_⟩
    exact ((((G6.out.setCell (by simp) _).setCell (by simp) _).setCell (by simp) _).setCell (by simp <;> omega) _).setCell (by simp <;> omega) _
  · obtain ⟨X, hX⟩ : ∃ X, X = ((w1.setCell ⟨w.heap.size + 1 + 1 + 1, 0, none⟩ (.int .u8 3)).setCell ⟨w.heap.size + 1 + 1 + 1, 1, none⟩ (.int .i64 0)) := ⟨_, rfl⟩
    rw [← hX]
    have g1 : At X w.heap.size (.cells #[.pointer (some ⟨U, 0, none⟩)] 43 (0, 0)) := by rw [hX]; exact ((At.below (At.drew (At.alloc hB _)) hb (by simp <;> omega)).other _ _ (by simp <;> omega)).other _ _ (by simp <;> omega)
    have g2 : UEAt X U s := by rw [hX]; exact ((At.below (At.drew (At.alloc hUE _)) hb (by simp <;> omega)).other _ _ (by simp <;> omega)).other _ _ (by simp <;> omega)
    have g3 : At X (w.heap.size + 1) (.cells #[.int .i64 0, .string ⟨#[]⟩, .int .u8 0] 61 (0, 0)) := by rw [hX]; exact ((At.below (At.drew (At.alloc hB1 _)) hb (by simp <;> omega)).other _ _ (by simp <;> omega)).other _ _ (by simp <;> omega)
    have g4 : At X (w.heap.size + 1 + 1) (.cells #[.int .u8 0, .int .i64 0] 97 (0, 0)) := by rw [hX]; exact ((At.below (At.drew (At.alloc hB2 _)) hb (by simp <;> omega)).other _ _ (by simp <;> omega)).other _ _ (by simp <;> omega)
    have g5 : Below w.heap.size w X := by rw [hX]; exact (((bel3.alloc (by simp <;> omega) _).drew.trans (hb.mono (by simp <;> omega))).setCell (by simp <;> omega) _).setCell (by simp <;> omega) _
    clear hX hb hbc hbf
    rename_i hh
    clear hh
    have c0 := g1.cell 0
    have G2 : Hid (UEAt X U s) := g2
    have G3 : Hid (At X (w.heap.size + 1) (.cells #[.int .i64 0, .string ⟨#[]⟩, .int .u8 0] 61 (0, 0))) := g3
    have G4 : Hid (At X (w.heap.size + 1 + 1) (.cells #[.int .u8 0, .int .i64 0] 97 (0, 0))) := g4
    have G5 : Hid (Below w.heap.size w X) := g5
    clear g1 g2 g3 g4 g5 hB hUE hB1 hB2 h17 h18 h19
    go_wp2_with fail
    refine (best_nil U s _ _ G2.out).mono ?_
    rintro e w2 ⟨rfl, hb⟩
    have g3 := At.below G3.out hb G3.out.lt
    have g4 := At.below G4.out hb G4.out.lt
    have k0 := g3.cell 0
    have k1 := g3.cell 1
    have k2 := g3.cell 2
    have k3 := g4.cell 0
    have k4 := g4.cell 1
    have l0 := g3.free 0
    have l1 := g3.free 1
    have l2 := g3.free 2
    have l3 := g4.free 0
    have l4 := g4.free 1
    have G6 : Hid (Below w.heap.size w w2) := G5.out.trans (hb.mono G5.out.size)
    clear g3 g4 hb G3 G4 G5 G2 c0
    go_wp2
    refine bodyPost_ret (v := .tuple #[.agg #[.int .i64 0, .string ⟨#[]⟩, .int .u8 0], .agg #[.int .u8 0, .int .i64 0], .bool false]) (by simp [results, Ybad.results8, go_sem, k0, k1, k2, k3, k4]) rfl ⟨rfl, ?_⟩
    exact ((((G6.out.setCell (by simp) _).setCell (by simp) _).setCell (by simp) _).setCell (by simp <;> omega) _).setCell (by simp <;> omega) _
end Go.Proofs.YbulkrqsDoor
