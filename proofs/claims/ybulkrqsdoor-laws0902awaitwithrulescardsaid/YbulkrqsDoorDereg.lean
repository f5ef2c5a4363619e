/-
  Seat b0902aD. deregisterUnlessHeld and startTsorCM (functions 24, 23), by contracts.
-/
import Derived.Test.YbulkrqsDoorWait
import Derived.Deep.RegionLaw
import Derived.Deep.DrawnRows
namespace Go.Proofs.YbulkrqsDoor
open Go.RowKit

set_option maxHeartbeats 1000000 in
set_option maxRecDepth 100000 in
/-- A timer holds it: nothing. -/
theorem dereg_held (U : Nat) (s : UEs) (w : World) (hst : s.st = 4) (ht : 0 < s.tn) (hU : UEAt w U s) : Calls Ybad.prog 24 #[.pointer (some ⟨U, 0, none⟩)] w fun e w' => e = .returned (.slice none 0 0) ∧ w' = w := by
  have c15 := hU.c15
  rw [hst] at c15
  have c29 := hU.c29
  have ht' : (0 : Int) < (s.tn : Int) := by omega
  clear hst
  go_enter Ybad.func24, Ybad.ntmps24
  go_wp2_with fail
  go_ret
  exact ⟨rfl, rfl⟩

set_option maxHeartbeats 2000000 in
set_option maxRecDepth 100000 in
/-- Nothing holds it: it asks to be deregistered. -/
theorem dereg_free (U : Nat) (s : UEs) (w : World) (hst : s.st = 4) (ht : s.tn = 0) (hn : s.sn ≤ 1024) (hU : UEAt w U s) (hS : Rws w U s.sa s.sn 5 sessF) :
    Calls Ybad.prog 24 #[.pointer (some ⟨U, 0, none⟩)] w fun e w' => ∃ v, e = .returned v ∧ w'.ownsRow w.heap.size 71 1 v 1 [deregV] ∧ w.grownBy w' (some U) ∧
      UEAt w' U { s with st := 6, reg := 1, sa := none, sn := 0, sc := 0, va := none, vn := 0, vc := 0 } := by
  have c15 := hU.c15
  rw [hst] at c15
  have c29 := hU.c29
  rw [ht] at c29
  have hlt := hU.lt
  clear hst ht
  go_enter Ybad.func24, Ybad.ntmps24
  go_wp2_with fail
  refine (inEmergency_any U s _ hn hU hS).mono ?_
  rintro e w1 ⟨rfl, hb⟩
  have hU1 : UEAt w1 U s := hU.below hb hlt
  have HU1 : Hid (UEAt w1 U s) := hU1
  have HG1 : Hid (Below w.heap.size w w1) := hb
  have l1 := hU1.lt
  have c18 := hU1.c18
  have c25 := hU1.c25
  have c26 := hU1.c26
  clear hb hU1 c15 c29
  go_wp2_with fail
  go_region_held3 (fun w' => w'.cell? ⟨U, 18, none⟩ = some (.string ⟨#[]⟩) ∧ w'.cell? ⟨U, 25, none⟩ = some (.slice none 0 0) ∧ w'.cell? ⟨U, 26, none⟩ = some (.slice none 0 0) ∧ U < w'.heap.size ∧ Below w1.heap.size w1 w')
    ((go_split_ands; first | (refine ⟨?_, ?_, ?_, ?_, (Below.refl _ _).drew⟩ <;> (simp [*]; done)) | (have hsz := hb2.size; have hlt2 : U < w2.heap.size := Nat.lt_of_lt_of_le (by assumption) hsz; refine ⟨?_, ?_, ?_, hlt2, ?_⟩ <;> first | (rw [hb2.cell (by assumption)]; assumption) | (refine Below.trans ?_ (hb2.mono ?_); assumption; (apply Below.size (B := w1.heap.size); assumption)))))
    ((go_at_call 25; refine (contains_nil _ _).mono ?_; rintro e w2 ⟨rfl, hb2⟩))
  rename_i hh
  have hb12 : Below w1.heap.size w1 w2 := hh.2.2.2.2
  clear hh
  have HU2 : Hid (UEAt w2 U s) := HU1.out.below hb12 l1
  have HG2 : Hid (Below w.heap.size w w2) := HG1.out.trans (hb12.mono HG1.out.size)
  clear hb12 c18 c25 c26 HU1 HG1 hb2
  go_wp2_with fail
  refine (deregister_any U s _ HU2.out).mono ?_
  rintro e w3 ⟨v3, rfl, ho, hg, hU3⟩
  have HO : Hid (w3.ownsRow w.heap.size 71 1 v3 1 [deregV]) := own_mono ho HG2.out.size
  have HG3 : Hid (w.grownBy w3 (some U)) := gb_trans (gb_below HG2.out _) hg
  have HU3 : Hid (UEAt w3 U { s with st := 6, reg := 1, sa := none, sn := 0, sc := 0, va := none, vn := 0, vc := 0 }) := hU3
  clear ho hg hU3
  go_wp2
  go_ret
  exact ⟨_, rfl, HO.out, HG3.out, HU3.out⟩

def startV (d : Int) : Value := .iface 87 (.agg #[.int .u8 0, .string ⟨#[]⟩, .bool true, .int .i64 d, .string cmciB])

set_option maxHeartbeats 1000000 in
set_option maxRecDepth 100000 in
/-- A value of 0 or less: no timer. -/
theorem start_none (U : Nat) (d : Int) (hd : d ≤ 0) (w : World) : Calls Ybad.prog 23 #[.pointer (some ⟨U, 0, none⟩), .agg #[.int .u8 0, .string ⟨#[]⟩, .bool true], .int .i64 d, .agg #[.int .u64 0, .int .i64 0, .pointer none]] w fun e w' => e = .returned (.slice none 0 0) ∧ Below w.heap.size w w' := by
  go_enter Ybad.func23, Ybad.ntmps23
  go_wp2
  go_ret
  exact ⟨rfl, ((Below.refl _ _).alloc (Nat.le_refl _) _).alloc (by simp) _⟩

theorem Ybad.info42 : (Ybad.prog.info? 42).map (fun i => (i.zero, i.size, i.bytes)) = some (some (.agg #[.int .u8 0, .string ByteArray.empty, .bool false, .int .u64 0, .int .i64 0, .pointer none, .int .i64 0]), 7, 64) := by kernel_rfl

set_option maxHeartbeats 2000000 in
set_option maxRecDepth 100000 in
/-- A positive value: the timer runs. -/
theorem start_some (U : Nat) (s : UEs) (d : Int) (hd : 0 < d) (w : World) (hta : s.ta = none ∧ s.tn = 0 ∧ s.tc = 0) (hU : UEAt w U s) :
    Calls Ybad.prog 23 #[.pointer (some ⟨U, 0, none⟩), .agg #[.int .u8 0, .string ⟨#[]⟩, .bool true], .int .i64 d, .agg #[.int .u64 0, .int .i64 0, .pointer none]] w fun e w' => ∃ v, e = .returned v ∧
      w'.ownsRow w.heap.size 71 1 v 1 [startV d] ∧ w.grownBy w' (some U) ∧ ∃ g c, UEAt w' U { s with ta := some ⟨g, 0, none⟩, tn := 1, tc := c } := by
  have hd' : ¬ d ≤ 0 := by omega
  have hlt := hU.lt
  have hta3 := hta
  have HT3 : Hid (s.ta = none ∧ s.tn = 0 ∧ s.tc = 0) := hta
  have hW : UEAt ((w.alloc (.cells #[.int .u8 0, .string ⟨#[]⟩, .bool true] 36)).alloc (.cells #[.int .u64 0, .int .i64 0, .pointer none] 40)) U s := (At.alloc hU _).alloc _
  obtain ⟨W, hWe⟩ : ∃ W, W = ((w.alloc (.cells #[.int .u8 0, .string ⟨#[]⟩, .bool true] 36)).alloc (.cells #[.int .u64 0, .int .i64 0, .pointer none] 40)) := ⟨_, rfl⟩
  rw [← hWe] at hW
  have b0 : At W w.heap.size (.cells #[.int .u8 0, .string ⟨#[]⟩, .bool true] 36 (0, 0)) := by rw [hWe]; exact (At.new w _).alloc _
  have b1 : At W (w.heap.size + 1) (.cells #[.int .u64 0, .int .i64 0, .pointer none] 40 (0, 0)) := by
    have := At.new (w.alloc (.cells #[.int .u8 0, .string ⟨#[]⟩, .bool true] 36)) (.cells #[.int .u64 0, .int .i64 0, .pointer none] 40)
    rw [hWe]; simpa using this
  have gW : w.grownBy W (some U) := by rw [hWe]; exact gb_alloc (gb_alloc (gb_refl _ _) _) _
  have sW : W.heap.size = w.heap.size + 1 + 1 := by rw [hWe]; simp
  clear hta hta3
  have HWE : Hid (W = ((w.alloc (.cells #[.int .u8 0, .string ⟨#[]⟩, .bool true] 36)).alloc (.cells #[.int .u64 0, .int .i64 0, .pointer none] 40))) := hWe
  have HB0 : Hid (At W w.heap.size (.cells #[.int .u8 0, .string ⟨#[]⟩, .bool true] 36 (0, 0))) := b0
  have HB1 : Hid (At W (w.heap.size + 1) (.cells #[.int .u64 0, .int .i64 0, .pointer none] 40 (0, 0))) := b1
  have HGW : Hid (w.grownBy W (some U)) := gW
  have HSW : Hid (W.heap.size = w.heap.size + 1 + 1) := sW
  have HUW : Hid (UEAt W U s) := hW
  clear hWe b0 b1 gW sW hW
  go_enter Ybad.func23, Ybad.ntmps23
  go_wp2_with fail
  rw [← HWE.out]
  have c29 := HUW.out.c29
  obtain ⟨k0, k1, k2⟩ := HT3.out
  rw [k0, k1, k2] at c29
  have f29 := HUW.out.free 29
  have l29 := HUW.out.lt
  have p0 := HB0.out.cell 0
  have p1 := HB0.out.cell 1
  have p2 := HB0.out.cell 2
  have r0 := HB1.out.cell 0
  have r1 := HB1.out.cell 1
  have r2 := HB1.out.cell 2
  have l0 := HB0.out.lt
  have l1 := HB1.out.lt
  obtain ⟨i0, hi, hz0, hz1, hz2⟩ := info_parts Ybad.info42
  have HI : Hid (Ybad.prog.info? 42 = some i0) := hi
  clear hi
  clear k0 k1 k2
  go_region_law ((refine step_append_lies _ (by rfl) (.tmp 15) (.tmp 20) 34 (by rfl) w.heap.size 42 i0 _ 7 64 Ybad.underlying34 HI.out hz0 hz1 hz2 (by rfl) (by decide) (.slice none 0 0) 0 [] (by simp [Act.eval]) (World.ownsRow_nil _ _ _ _) ⟨W.heap.size, 0, none⟩ 1 1 [.int .u8 0, .string ⟨#[]⟩, .bool true, .int .u64 0, .int .i64 0, .pointer none, .int .i64 d] (by simp [Act.eval]) (by rfl) (World.news_of_block (heap_alloc_new W _)) (by simp [Value.oneCell']) (by decide) (by unfold maxLen; omega) (by omega) (by simp; omega) (W.heap.size + 1) (by simp) ?_; intro g cap w5 hown5 hgr5 hat5 hlt5; have q29 := (hgr5.cell_far ⟨U, 29, none⟩ (by simp; omega) (by simp [Value.ownBlock])).trans ((World.cell?_alloc_past _ _ _ l29).trans c29); have qf := (hgr5.frozen_far ⟨U, 29, none⟩ (by simp; omega) (by simp [Value.ownBlock])).trans ((World.frozen?_alloc_past _ _ _ l29).trans f29)))
  all_goals
    have hn0 : (Value.slice none 0 0).ownBlock = none := rfl
    rw [hn0] at hgr5
    have gX : W.grownBy w5 none := gb_trans (gb_drew (gb_alloc (gb_refl _ _) _)) hgr5
    have y0 : At w5 w.heap.size (.cells #[.int .u8 0, .string ⟨#[]⟩, .bool true] 36 (0, 0)) := HB0.out.kept gX (by simp)
    have yU : UEAt w5 U s := HUW.out.kept gX (by simp)
    have z0 := y0.cell 0
    have z1 := y0.cell 1
    have z2 := y0.cell 2
    have zl := y0.lt
    have zU := yU.lt
    have hne : ¬ U = w.heap.size := by omega
    have hne' : ¬ w.heap.size = U := by omega
    have sz5 : w.heap.size ≤ w5.heap.size := Nat.le_of_lt zl
    have GX : Hid (w.grownBy (w5.setCell ⟨U, 29, none⟩ (.slice (some ⟨g, 0, none⟩) 1 cap)) (some U)) := gb_set (gb_own HGW.out gX (by simp)) _ _
    have YU : Hid (UEAt (w5.setCell ⟨U, 29, none⟩ (.slice (some ⟨g, 0, none⟩) 1 cap)) U { s with ta := some ⟨g, 0, none⟩, tn := 1, tc := cap }) := yU.set29 _ _ _
    have hO := World.ownsRow_lit (base := w.heap.size) (e := 71) (size := 1) (w5.setCell ⟨U, 29, none⟩ (.slice (some ⟨g, 0, none⟩) 1 cap)) #[startV d] 1 (by simp [World.setCell]; exact sz5) (by unfold maxLen; omega) (by simp)
    rw [show (w5.setCell ⟨U, 29, none⟩ (.slice (some ⟨g, 0, none⟩) 1 cap)).heap.size = w5.heap.size by simp [World.setCell]] at hO
    have HO : Hid (((w5.setCell ⟨U, 29, none⟩ (.slice (some ⟨g, 0, none⟩) 1 cap)).alloc (.cells #[startV d] 71)).ownsRow w.heap.size 71 1 (.slice (some ⟨w5.heap.size, 0, none⟩) 1 1) 1 [startV d]) := hO
    clear hO gX y0 yU hgr5 hown5 hat5 hn0 q29 qf c29 f29 l29 p0 p1 p2 r0 r1 r2 l0 l1 HB0 HB1 HGW HSW HUW HWE hz0 hz1 hz2 HI
    go_wp2
    go_ret
    exact ⟨_, rfl, HO.out, gb_alloc GX.out _, g, cap, At.alloc YU.out _⟩
end Go.Proofs.YbulkrqsDoor
