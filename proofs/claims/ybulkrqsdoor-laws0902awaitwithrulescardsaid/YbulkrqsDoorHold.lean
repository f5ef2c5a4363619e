/-
  Seat b0902aD. 'holdAfterFailedCheck' (function 7): a busy UE without rules remembers; a UE that is not busy leaves.
-/
import Derived.Test.YbulkrqsDoorLeave
namespace Go.Proofs.YbulkrqsDoor
open Go.RowKit

def sorB : ByteArray := ⟨#[84, 83, 32, 50, 51, 46, 49, 50, 50, 32, 67, 46, 51]⟩

set_option maxHeartbeats 1000000 in
set_option maxRecDepth 100000 in
theorem hold_remember (U : Nat) (s : UEs) (w : World) (hr : s.rn = 0) (hbz : 0 < s.sn ∨ 0 < s.vn) (hU : UEAt w U s) :
    Calls Ybad.prog 7 #[.pointer (some ⟨U, 0, none⟩), .agg #[.int .u64 0, .int .i64 0, .pointer none]] w fun e w' => e = .returned (.slice none 0 0) ∧ w.grownBy w' (some U) ∧ UEAt w' U { s with sor := sorB } := by
  have hlt := hU.lt
  have HR : Hid (s.rn = 0) := hr
  have hB : (decide (0 < s.sn) || decide (0 < s.vn)) = true := by simpa using hbz
  have HB : Hid ((decide (0 < s.sn) || decide (0 < s.vn)) = true) := hB
  clear hr hB hbz
  have hU0 : UEAt (w.alloc (.cells #[.int .u64 0, .int .i64 0, .pointer none] 40)) U s := At.alloc hU _
  have HU0 : Hid (UEAt (w.alloc (.cells #[.int .u64 0, .int .i64 0, .pointer none] 40)) U s) := hU0
  clear hU0
  go_enter Ybad.func7, Ybad.ntmps7
  go_wp2_with fail
  refine (higher_none U s _ HU0.out).mono ?_
  rintro e w1 ⟨rfl, hb⟩
  have hg1 : w.grownBy w1 (some U) := gb_trans (World.grownBy_alloc _ _ _) (gb_below hb _)
  have hU1 : UEAt w1 U s := HU0.out.below hb HU0.out.lt
  have l1 := hU1.lt
  obtain ⟨la, lb, lc, ld, le⟩ := ltUp l1
  have c11 := hU1.c11
  rw [HR.out] at c11
  have c22 := hU1.c22
  have f22 := hU1.free 22
  have HG1 : Hid (w.grownBy w1 (some U)) := hg1
  have HU1 : Hid (UEAt w1 U s) := hU1
  clear hg1 hU1 hb HU0
  go_wp2_with fail
  refine (busy_any U s _ ?_).mono ?_
  · exact (At.alloc HU1.out _).alloc _
  rintro e w2 ⟨rfl, hw2⟩
  rw [HB.out]
  subst hw2
  go_wp2
  go_ret
  refine ⟨rfl, gb_alloc (gb_alloc (gb_set HG1.out _ _) _) _, ?_⟩
  exact (At.alloc (HU1.out.set22 sorB) _).alloc _

theorem own_mono {w : World} {B B' e size n : Nat} {v : Value} {xs : List Value} (h : w.ownsRow B e size v n xs) (hB : B' ≤ B) : w.ownsRow B' e size v n xs := by
  refine ⟨h.1, ?_⟩
  rcases h.2 with h0 | ⟨g, cap, cur, hv, hb, r⟩
  · exact .inl h0
  · exact .inr ⟨g, cap, cur, hv, by omega, r⟩

set_option maxHeartbeats 1000000 in
set_option maxRecDepth 100000 in
theorem hold_leave0 (U : Nat) (s : UEs) (f : Nat → Int) (w : World) (hr : s.rn = 0) (hbz : s.sn = 0 ∧ s.vn = 0) (hm : s.tn ≤ 1024) (hU : UEAt w U s) (hT : Rws w U s.ta s.tn 7 (timF f)) :
    Calls Ybad.prog 7 #[.pointer (some ⟨U, 0, none⟩), .agg #[.int .u64 0, .int .i64 0, .pointer none]] w fun e w' => ∃ v, e = .returned v ∧
      w'.ownsRow w.heap.size 71 1 v (1 + s.tn + searchN s.pt) ([relV sorB] ++ flat (stopF f cmciB) s.tn ++ searchL sorB s.pt) ∧ w.grownBy w' (some U) ∧ UEAt w' U { s with st := 5, ta := none, tn := 0, tc := 0, sor := ⟨#[]⟩, rel := false, due := false } := by
  have hlt := hU.lt
  have HR : Hid (s.rn = 0) := hr
  have HZ : Hid (s.sn = 0 ∧ s.vn = 0) := hbz
  have HB : Hid ((decide (0 < s.sn) || decide (0 < s.vn)) = false) := by show (decide (0 < s.sn) || decide (0 < s.vn)) = false; simp [hbz.1, hbz.2]
  clear hr hbz
  have hU0 : UEAt (w.alloc (.cells #[.int .u64 0, .int .i64 0, .pointer none] 40)) U s := At.alloc hU _
  have HU0 : Hid (UEAt (w.alloc (.cells #[.int .u64 0, .int .i64 0, .pointer none] 40)) U s) := hU0
  clear hU0
  go_enter Ybad.func7, Ybad.ntmps7
  go_wp2_with fail
  refine (higher_none U s _ HU0.out).mono ?_
  rintro e w1 ⟨rfl, hb⟩
  have hg1 : w.grownBy w1 (some U) := gb_trans (World.grownBy_alloc _ _ _) (gb_below hb _)
  have hU1 : UEAt w1 U s := HU0.out.below hb HU0.out.lt
  have l1 := hU1.lt
  obtain ⟨la, lb, lc, ld, le⟩ := ltUp l1
  have c11 := hU1.c11
  rw [HR.out] at c11
  have HG1 : Hid (w.grownBy w1 (some U)) := hg1
  have HU1 : Hid (UEAt w1 U s) := hU1
  have HT1 : Hid (Rws w1 U s.ta s.tn 7 (timF f)) := hT.kept hg1
  clear hg1 hU1 hb HU0
  go_wp2_with fail
  refine (busy_any U s _ ?_).mono ?_
  · exact (At.alloc HU1.out _).alloc _
  rintro e w2 ⟨rfl, hw2⟩
  rw [HB.out]
  subst hw2
  go_wp2_with fail
  refine (leave_any U s _ f _ (by rw [HZ.out.1]; omega) hm ?_ ?_ ?_).mono ?_
  · exact (At.alloc HU1.out _).alloc _
  · intro j hj; rw [HZ.out.1] at hj; omega
  · exact HT1.out.kept (gb_alloc (gb_alloc (gb_refl _ _) _) _)
  rintro e w3 ⟨v3, rfl, ho, hg, hU3⟩
  have HO : Hid (w3.ownsRow w.heap.size 71 1 v3 (1 + s.tn + searchN s.pt) ([relV sorB] ++ flat (stopF f cmciB) s.tn ++ searchL sorB s.pt)) := own_mono ho (by have := HG1.out.size; simp; omega)
  have HG3 : Hid (w.grownBy w3 (some U)) := gb_trans (gb_alloc (gb_alloc HG1.out _) _) hg
  have HU3 : Hid (UEAt w3 U { s with st := 5, ta := none, tn := 0, tc := 0, sor := ⟨#[]⟩, rel := false, due := false }) := hU3
  clear ho hg hU3
  go_wp2
  go_ret
  exact ⟨_, rfl, HO.out, HG3.out, HU3.out⟩

set_option maxHeartbeats 1000000 in
set_option maxRecDepth 100000 in
theorem hold_leave1 (U : Nat) (s : UEs) (f : Nat → Int) (w : World) (hr : 0 < s.rn) (hbz : s.sn = 0 ∧ s.vn = 0) (hm : s.tn ≤ 1024) (hU : UEAt w U s) (hT : Rws w U s.ta s.tn 7 (timF f)) :
    Calls Ybad.prog 7 #[.pointer (some ⟨U, 0, none⟩), .agg #[.int .u64 0, .int .i64 0, .pointer none]] w fun e w' => ∃ v, e = .returned v ∧
      w'.ownsRow w.heap.size 71 1 v (1 + s.tn + searchN s.pt) ([relV sorB] ++ flat (stopF f cmciB) s.tn ++ searchL sorB s.pt) ∧ w.grownBy w' (some U) ∧ UEAt w' U { s with st := 5, ta := none, tn := 0, tc := 0, sor := ⟨#[]⟩, rel := false, due := false } := by
  have hlt := hU.lt
  have HR : Hid (0 < s.rn) := hr
  have HZ : Hid (s.sn = 0 ∧ s.vn = 0) := hbz
  have HB : Hid ((decide (0 < s.sn) || decide (0 < s.vn)) = false) := by show (decide (0 < s.sn) || decide (0 < s.vn)) = false; simp [hbz.1, hbz.2]
  clear hr hbz
  have hU0 : UEAt (w.alloc (.cells #[.int .u64 0, .int .i64 0, .pointer none] 40)) U s := At.alloc hU _
  have HU0 : Hid (UEAt (w.alloc (.cells #[.int .u64 0, .int .i64 0, .pointer none] 40)) U s) := hU0
  clear hU0
  go_enter Ybad.func7, Ybad.ntmps7
  go_wp2_with fail
  refine (higher_none U s _ HU0.out).mono ?_
  rintro e w1 ⟨rfl, hb⟩
  have hg1 : w.grownBy w1 (some U) := gb_trans (World.grownBy_alloc _ _ _) (gb_below hb _)
  have hU1 : UEAt w1 U s := HU0.out.below hb HU0.out.lt
  have l1 := hU1.lt
  obtain ⟨la, lb, lc, ld, le⟩ := ltUp l1
  have c11 := hU1.c11
  have hr1 : ((s.rn : Int) == 0) = false := by have := HR.out; simp; omega
  have HG1 : Hid (w.grownBy w1 (some U)) := hg1
  have HU1 : Hid (UEAt w1 U s) := hU1
  have HT1 : Hid (Rws w1 U s.ta s.tn 7 (timF f)) := hT.kept hg1
  clear hg1 hU1 hb HU0
  go_wp2_with fail
  refine (busy_any U s _ ?_).mono ?_
  · exact (At.alloc HU1.out _).alloc _
  rintro e w2 ⟨rfl, hw2⟩
  rw [HB.out]
  subst hw2
  go_wp2_with fail
  refine (leave_any U s _ f _ (by rw [HZ.out.1]; omega) hm ?_ ?_ ?_).mono ?_
  · exact (At.alloc HU1.out _).alloc _
  · intro j hj; rw [HZ.out.1] at hj; omega
  · exact HT1.out.kept (gb_alloc (gb_alloc (gb_refl _ _) _) _)
  rintro e w3 ⟨v3, rfl, ho, hg, hU3⟩
  have HO : Hid (w3.ownsRow w.heap.size 71 1 v3 (1 + s.tn + searchN s.pt) ([relV sorB] ++ flat (stopF f cmciB) s.tn ++ searchL sorB s.pt)) := own_mono ho (by have := HG1.out.size; simp; omega)
  have HG3 : Hid (w.grownBy w3 (some U)) := gb_trans (gb_alloc (gb_alloc HG1.out _) _) hg
  have HU3 : Hid (UEAt w3 U { s with st := 5, ta := none, tn := 0, tc := 0, sor := ⟨#[]⟩, rel := false, due := false }) := hU3
  clear ho hg hU3
  go_wp2
  go_ret
  exact ⟨_, rfl, HO.out, HG3.out, HU3.out⟩

end Go.Proofs.YbulkrqsDoor
