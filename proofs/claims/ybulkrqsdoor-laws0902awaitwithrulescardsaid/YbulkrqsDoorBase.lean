/-
  Seat b0902aD. The UE in memory, and the contracts of the functions that look for a higher priority network, at a UE without cells, homes or lists.
-/
import Derived.Test.YbulkrqsDoorRows
import Derived.WalkKit
import Derived.WalkLawsBesides
import Derived.Deep.QuietTactic
import Derived.BigQuiet
import Derived.RegionTactic
import Derived.Deep.RegionHeld3
import Derived.Deep.MidRow
namespace Go.Proofs.YbulkrqsDoor
open Go.RowKit

/-- What the UE of the two laws holds; every field that they leave alone is zero. -/
structure UEs where
  (ra : Option Addr) (rn rc : Nat)
  (st reg pt : Int)
  (sor : ByteArray) (rel due : Bool)
  (sa : Option Addr) (sn sc : Nat)
  (va : Option Addr) (vn vc : Nat)
  (ta : Option Addr) (tn tc : Nat)

def UEs.cells (s : UEs) : Array Value := #[.string ⟨#[]⟩, .int .i64 0, .slice none 0 0, .bool false, .slice none 0 0, .slice none 0 0, .slice none 0 0, .pointer none, .int .i64 0, .slice none 0 0, .bool false,
  .slice s.ra s.rn s.rc, .int .u8 0, .string ⟨#[]⟩, .slice none 0 0, .int .u8 s.st, .slice none 0 0, .int .i64 0, .string ⟨#[]⟩, .int .u8 0, .int .u8 s.reg, .int .i64 s.pt, .string s.sor, .bool s.rel, .bool s.due,
  .slice none 0 0, .slice none 0 0, .slice s.sa s.sn s.sc, .slice s.va s.vn s.vc, .slice s.ta s.tn s.tc]
/-- Block b of w is o. -/
def At (w : World) (b : Nat) (o : Obj) : Prop := w.heap[b]? = some o
def UEAt (w : World) (U : Nat) (s : UEs) : Prop := At w U (.cells s.cells 63 (0, 0))

section
variable {w w' : World} {b : Nat} {o : Obj}
theorem At.lt (h : At w b o) : b < w.heap.size := lt_of_block h
theorem At.alloc (h : At w b o) (x : Obj) : At (w.alloc x) b o := (Below.heap_alloc _ _ _ h.lt).trans h
theorem At.drew (h : At w b o) : At w.drew b o := h
theorem At.other (h : At w b o) (a : Addr) (v : Value) (hne : b ≠ a.block) : At (w.setCell a v) b o := (heap_setCell_other _ _ _ _ hne).trans h
theorem At.below {B : Nat} (h : At w b o) (hb : Below B w w') (hB : b < B) : At w' b o := (hb.block b hB).trans h
theorem At.kept {r : Option Nat} (h : At w b o) (hg : w.grownBy w' r) (hr : some b ≠ r) : At w' b o := (hg.block b h.lt hr).trans h
theorem At.new (w : World) (x : Obj) : At (w.alloc x) w.heap.size x := heap_alloc_new w x
theorem At.cell {C : Array Value} {t : TypeId} (h : At w b (.cells C t (0, 0))) (i : Nat) : w.cell? ⟨b, i, none⟩ = C[i]? := cell_of_row _ _ _ _ _ _ h
theorem At.free {C : Array Value} {t : TypeId} (h : At w b (.cells C t (0, 0))) (i : Nat) : w.frozen? ⟨b, i, none⟩ = false := frozen_of_row _ _ _ _ _ h
theorem At.set {C : Array Value} {t : TypeId} (h : At w b (.cells C t (0, 0))) (i : Nat) (v : Value) : At (w.setCell ⟨b, i, none⟩ v) b (.cells (C.setIfInBounds i v) t (0, 0)) := heap_setCell_same _ _ _ _ _ _ h
end

section
variable {w w' : World} {U : Nat} {s : UEs}
theorem UEAt.lt (h : UEAt w U s) : U < w.heap.size := lt_of_block h
theorem UEAt.at (h : UEAt w U s) (i : Nat) : w.cell? ⟨U, i, none⟩ = s.cells[i]? := cell_of_row _ _ _ _ _ _ h
theorem UEAt.free (h : UEAt w U s) (i : Nat) : w.frozen? ⟨U, i, none⟩ = false := frozen_of_row _ _ _ _ _ h
theorem UEAt.c3 (h : UEAt w U s) : w.cell? ⟨U, 3, none⟩ = some (.bool false) := (h.at 3).trans rfl
theorem UEAt.c4 (h : UEAt w U s) : w.cell? ⟨U, 4, none⟩ = some (.slice none 0 0) := (h.at 4).trans rfl
theorem UEAt.c5 (h : UEAt w U s) : w.cell? ⟨U, 5, none⟩ = some (.slice none 0 0) := (h.at 5).trans rfl
theorem UEAt.c6 (h : UEAt w U s) : w.cell? ⟨U, 6, none⟩ = some (.slice none 0 0) := (h.at 6).trans rfl
theorem UEAt.c11 (h : UEAt w U s) : w.cell? ⟨U, 11, none⟩ = some (.slice s.ra s.rn s.rc) := (h.at 11).trans rfl
theorem UEAt.c14 (h : UEAt w U s) : w.cell? ⟨U, 14, none⟩ = some (.slice none 0 0) := (h.at 14).trans rfl
theorem UEAt.c15 (h : UEAt w U s) : w.cell? ⟨U, 15, none⟩ = some (.int .u8 s.st) := (h.at 15).trans rfl
theorem UEAt.c16 (h : UEAt w U s) : w.cell? ⟨U, 16, none⟩ = some (.slice none 0 0) := (h.at 16).trans rfl
theorem UEAt.c17 (h : UEAt w U s) : w.cell? ⟨U, 17, none⟩ = some (.int .i64 0) := (h.at 17).trans rfl
theorem UEAt.c18 (h : UEAt w U s) : w.cell? ⟨U, 18, none⟩ = some (.string ⟨#[]⟩) := (h.at 18).trans rfl
theorem UEAt.c19 (h : UEAt w U s) : w.cell? ⟨U, 19, none⟩ = some (.int .u8 0) := (h.at 19).trans rfl
theorem UEAt.c20 (h : UEAt w U s) : w.cell? ⟨U, 20, none⟩ = some (.int .u8 s.reg) := (h.at 20).trans rfl
theorem UEAt.c21 (h : UEAt w U s) : w.cell? ⟨U, 21, none⟩ = some (.int .i64 s.pt) := (h.at 21).trans rfl
theorem UEAt.c22 (h : UEAt w U s) : w.cell? ⟨U, 22, none⟩ = some (.string s.sor) := (h.at 22).trans rfl
theorem UEAt.c23 (h : UEAt w U s) : w.cell? ⟨U, 23, none⟩ = some (.bool s.rel) := (h.at 23).trans rfl
theorem UEAt.c24 (h : UEAt w U s) : w.cell? ⟨U, 24, none⟩ = some (.bool s.due) := (h.at 24).trans rfl
theorem UEAt.c25 (h : UEAt w U s) : w.cell? ⟨U, 25, none⟩ = some (.slice none 0 0) := (h.at 25).trans rfl
theorem UEAt.c26 (h : UEAt w U s) : w.cell? ⟨U, 26, none⟩ = some (.slice none 0 0) := (h.at 26).trans rfl
theorem UEAt.c27 (h : UEAt w U s) : w.cell? ⟨U, 27, none⟩ = some (.slice s.sa s.sn s.sc) := (h.at 27).trans rfl
theorem UEAt.c28 (h : UEAt w U s) : w.cell? ⟨U, 28, none⟩ = some (.slice s.va s.vn s.vc) := (h.at 28).trans rfl
theorem UEAt.c29 (h : UEAt w U s) : w.cell? ⟨U, 29, none⟩ = some (.slice s.ta s.tn s.tc) := (h.at 29).trans rfl
theorem UEAt.kept {r : Option Nat} (h : UEAt w U s) (hg : w.grownBy w' r) (hr : some U ≠ r) : UEAt w' U s := (hg.block U h.lt hr).trans h
theorem UEAt.below {B : Nat} (h : UEAt w U s) (hb : Below B w w') (hU : U < B) : UEAt w' U s := (hb.block U hU).trans h
theorem UEAt.set15 (h : UEAt w U s) (v : Int) : UEAt (w.setCell ⟨U, 15, none⟩ (.int .u8 v)) U { s with st := v } := At.set h 15 _
theorem UEAt.set20 (h : UEAt w U s) (v : Int) : UEAt (w.setCell ⟨U, 20, none⟩ (.int .u8 v)) U { s with reg := v } := At.set h 20 _
theorem UEAt.set22 (h : UEAt w U s) (v : ByteArray) : UEAt (w.setCell ⟨U, 22, none⟩ (.string v)) U { s with sor := v } := At.set h 22 _
theorem UEAt.set23 (h : UEAt w U s) (v : Bool) : UEAt (w.setCell ⟨U, 23, none⟩ (.bool v)) U { s with rel := v } := At.set h 23 _
theorem UEAt.set24 (h : UEAt w U s) (v : Bool) : UEAt (w.setCell ⟨U, 24, none⟩ (.bool v)) U { s with due := v } := At.set h 24 _
theorem UEAt.set27 (h : UEAt w U s) (a : Option Addr) (n c : Nat) : UEAt (w.setCell ⟨U, 27, none⟩ (.slice a n c)) U { s with sa := a, sn := n, sc := c } := At.set h 27 _
theorem UEAt.set28 (h : UEAt w U s) (a : Option Addr) (n c : Nat) : UEAt (w.setCell ⟨U, 28, none⟩ (.slice a n c)) U { s with va := a, vn := n, vc := c } := At.set h 28 _
theorem UEAt.set29 (h : UEAt w U s) (a : Option Addr) (n c : Nat) : UEAt (w.setCell ⟨U, 29, none⟩ (.slice a n c)) U { s with ta := a, tn := n, tc := c } := At.set h 29 _
end

theorem bcell {W w1 : World} (hb : Below W.heap.size W w1) : (∀ b o, b < W.heap.size → w1.cell? ⟨b, o, none⟩ = W.cell? ⟨b, o, none⟩) ∧ (∀ b o, b < W.heap.size → w1.frozen? ⟨b, o, none⟩ = W.frozen? ⟨b, o, none⟩) :=
  ⟨fun b o h => hb.cell (p := ⟨b, o, none⟩) h, fun b o h => hb.frozen (p := ⟨b, o, none⟩) h⟩

/-- slices.Contains over no PLMN: no. -/
theorem contains_nil (x : ByteArray) (w : World) : Calls Ybad.prog 25 #[.slice none 0 0, .agg #[.string x]] w fun e w' => e = .returned (.bool false) ∧ Below w.heap.size w w' := by
  go_enter Ybad.func25, Ybad.ntmps25
  go_wp2
  refine wp_loop_rounds 1 ?_
  rw [rounds_succ]
  go_wp2
  go_ret
  exact ⟨rfl, ((Below.refl _ _).alloc (Nat.le_refl _) _).alloc (by simp) _⟩

/-- 'listed' over no entry: -1. -/
theorem listed_nil (c : Value) (a b d : Value) (w : World) (hc : c = .agg #[a, b, d]) : Calls Ybad.prog 27 #[.slice none 0 0, c] w fun e w' => e = .returned (.int .i64 (-1)) ∧ Below w.heap.size w w' := by
  subst hc
  go_enter Ybad.func27, Ybad.ntmps27
  go_wp2
  refine wp_loop_rounds 1 ?_
  rw [rounds_succ]
  go_wp2
  go_ret
  exact ⟨rfl, (Below.refl _ _).alloc (Nat.le_refl _) _⟩

/-- 'homeRank' of a UE without homes: -1. -/
theorem homeRank_nil (U : Nat) (s : UEs) (x : ByteArray) (w : World) (hU : UEAt w U s) : Calls Ybad.prog 26 #[.pointer (some ⟨U, 0, none⟩), .agg #[.string x]] w fun e w' => e = .returned (.int .i64 (-1)) ∧ Below w.heap.size w w' := by
  have h14 := hU.c14
  have hlt := hU.lt
  go_enter Ybad.func26, Ybad.ntmps26
  go_wp2
  refine wp_loop_rounds 1 ?_
  rw [rounds_succ]
  go_wp2
  go_ret
  exact ⟨rfl, (Below.refl _ _).alloc (Nat.le_refl _) _⟩

/-- 'busy': has it sessions or services? -/
theorem busy_any (U : Nat) (s : UEs) (w : World) (hU : UEAt w U s) : Calls Ybad.prog 9 #[.pointer (some ⟨U, 0, none⟩)] w fun e w' => e = .returned (.bool (decide (0 < s.sn) || decide (0 < s.vn))) ∧ w' = w := by
  have h27 := hU.c27
  have h28 := hU.c28
  by_cases h1 : 0 < s.sn
  · have h1' : (0 : Int) < (s.sn : Int) := by omega
    go_enter Ybad.func9, Ybad.ntmps9
    go_wp2
    go_ret
    exact ⟨by simp [h1], rfl⟩
  · have h1' : ¬ (0 : Int) < (s.sn : Int) := by omega
    by_cases h2 : 0 < s.vn
    · have h2' : (0 : Int) < (s.vn : Int) := by omega
      go_enter Ybad.func9, Ybad.ntmps9
      go_wp2
      go_ret
      exact ⟨by simp, rfl⟩
    · have h2' : ¬ (0 : Int) < (s.vn : Int) := by omega
      go_enter Ybad.func9, Ybad.ntmps9
      go_wp2
      go_ret
      exact ⟨by simp, rfl⟩

/-- The world inside 'priority': the UE, the boxed cell, the result's place. -/
def Pri (w : World) (U : Nat) (s : UEs) (wk : World) : Prop :=
  UEAt wk U s ∧ wk.heap[w.heap.size]? = some (.cells #[.int .i64 0, .string ⟨#[]⟩, .int .u8 0] 61 (0, 0)) ∧ wk.heap[w.heap.size + 1]? = some (.cells #[.int .u8 0, .int .i64 0] 97 (0, 0)) ∧ Below w.heap.size w wk
theorem Pri.start {w : World} {U : Nat} {s : UEs} (hU : UEAt w U s) : Pri w U s ((w.alloc (.cells #[.int .i64 0, .string ⟨#[]⟩, .int .u8 0] 61)).alloc (.cells #[.int .u8 0, .int .i64 0] 97)) := by
  refine ⟨?_, ?_, ?_, ((Below.refl _ _).alloc (Nat.le_refl _) _).alloc (by simp) _⟩
  · exact (At.alloc hU _).alloc _
  · exact heap_alloc2_old w _ _
  · exact heap_alloc2_new w _ _
theorem Pri.next {w wk wn : World} {U : Nat} {s : UEs} (h : Pri w U s wk) (hb : Below wk.heap.size wk wn) : Pri w U s wn := by
  obtain ⟨h1, h2, h3, h4⟩ := h
  have l3 := lt_of_block h3
  exact ⟨h1.below hb h1.lt, (hb.block _ (lt_of_block h2)).trans h2, (hb.block _ l3).trans h3, h4.trans (hb.mono (by omega))⟩
theorem Pri.drew {w wk : World} {U : Nat} {s : UEs} (h : Pri w U s wk) : Pri w U s wk.drew := ⟨h.1, h.2.1, h.2.2.1, h.2.2.2.drew⟩
theorem Pri.b1 {w wk : World} {U : Nat} {s : UEs} (h : Pri w U s wk) : wk.cell? ⟨w.heap.size, 1, none⟩ = some (.string ⟨#[]⟩) := (cell_of_row _ _ _ _ _ _ h.2.1).trans rfl
theorem Pri.b0 {w wk : World} {U : Nat} {s : UEs} (h : Pri w U s wk) : wk.cell? ⟨w.heap.size, 0, none⟩ = some (.int .i64 0) := (cell_of_row _ _ _ _ _ _ h.2.1).trans rfl
theorem Pri.b2 {w wk : World} {U : Nat} {s : UEs} (h : Pri w U s wk) : wk.cell? ⟨w.heap.size, 2, none⟩ = some (.int .u8 0) := (cell_of_row _ _ _ _ _ _ h.2.1).trans rfl

set_option maxHeartbeats 2000000 in
set_option maxRecDepth 100000 in
/-- 'priority' at a UE without homes and lists: the class of other networks. -/
theorem priority_any (U : Nat) (s : UEs) (w : World) (hU : UEAt w U s) :
    Calls Ybad.prog 12 #[.pointer (some ⟨U, 0, none⟩), .agg #[.int .i64 0, .string ⟨#[]⟩, .int .u8 0]] w fun e w' => e = .returned (.tuple #[.agg #[.int .u8 3, .int .i64 0], .bool true]) ∧ Below w.heap.size w w' := by
  have h6 := hU.c6
  have hlt := hU.lt
  have p0 := Pri.start hU
  have P0 : Hid (Pri w U s ((w.alloc (.cells #[.int .i64 0, .string ⟨#[]⟩, .int .u8 0] 61)).alloc (.cells #[.int .u8 0, .int .i64 0] 97))) := p0
  clear p0
  go_enter Ybad.func12, Ybad.ntmps12
  go_wp2_with fail
  go_region_held3 (fun w' => w'.cell? ⟨U, 6, none⟩ = some (.slice none 0 0) ∧ w'.cell? ⟨w.heap.size, 1, none⟩ = some (.string ⟨#[]⟩)) (first | go_keep | (go_split_ands; refine ⟨?_, ?_⟩ <;> (rw [hb.cell (by simp; omega)]; assumption)))
    ((go_at_call 25; refine (contains_nil _ _).mono ?_; rintro e w1 ⟨rfl, hb⟩))
  have p1 : Pri w U s w1 := P0.out.drew.next hb
  clear P0 hb h6
  have P1 : Hid (Pri w U s w1) := p1
  clear p1
  go_wp2_with fail
  refine (homeRank_nil U s _ _ P1.out.1).mono ?_
  rintro e w2 ⟨rfl, hb⟩
  have p2 : Pri w U s w2 := P1.out.next hb
  have P2 : Hid (Pri w U s w2) := p2
  have q2 := p2.1.c4
  have b0 := p2.b0
  have b1 := p2.b1
  have b2 := p2.b2
  have l2 := lt_of_block p2.2.2.1
  have hU2 := p2.1.lt
  clear hb p2 P1
  go_wp2_with fail
  go_region_held3 (fun w' => w'.cell? ⟨U, 4, none⟩ = some (.slice none 0 0) ∧ w'.cell? ⟨w.heap.size, 0, none⟩ = some (.int .i64 0) ∧ w'.cell? ⟨w.heap.size, 1, none⟩ = some (.string ⟨#[]⟩) ∧ w'.cell? ⟨w.heap.size, 2, none⟩ = some (.int .u8 0)) (first | go_keep | (go_split_ands; refine ⟨?_, ?_, ?_, ?_⟩ <;> (rw [hb.cell (by simp; omega)]; assumption)))
    ((go_at_call 27; refine (listed_nil _ _ _ _ _ rfl).mono ?_; rintro e w3 ⟨rfl, hb⟩))
  have p3 : Pri w U s w3 := P2.out.drew.next hb
  have P3 : Hid (Pri w U s w3) := p3
  clear hb P2 q2 b0 b1 b2 l2 hU2
  have q3 := p3.1.c25
  have b0 := p3.b0
  have b1 := p3.b1
  have b2 := p3.b2
  have l3 := lt_of_block p3.2.2.1
  have hU3 := p3.1.lt
  clear p3
  go_wp2_with fail
  go_region_held3 (fun w' => w'.cell? ⟨U, 25, none⟩ = some (.slice none 0 0) ∧ w'.cell? ⟨w.heap.size, 1, none⟩ = some (.string ⟨#[]⟩)) (first | go_keep | (go_split_ands; refine ⟨?_, ?_⟩ <;> (rw [hb.cell (by simp; omega)]; assumption)))
    ((go_at_call 25; refine (contains_nil _ _).mono ?_; rintro e w4 ⟨rfl, hb⟩))
  have p4 : Pri w U s w4 := P3.out.drew.next hb
  have P4 : Hid (Pri w U s w4) := p4
  clear hb P3 q3 b0 b1 b2 l3 hU3
  have q4 := p4.1.c26
  have b0 := p4.b0
  have b1 := p4.b1
  have b2 := p4.b2
  have l4 := lt_of_block p4.2.2.1
  have hU4 := p4.1.lt
  clear p4
  go_wp2_with fail
  go_region_held3 (fun w' => w'.cell? ⟨U, 26, none⟩ = some (.slice none 0 0) ∧ w'.cell? ⟨w.heap.size, 1, none⟩ = some (.string ⟨#[]⟩)) (first | go_keep | (go_split_ands; refine ⟨?_, ?_⟩ <;> (rw [hb.cell (by simp; omega)]; assumption)))
    ((go_at_call 25; refine (contains_nil _ _).mono ?_; rintro e w5 ⟨rfl, hb⟩))
  have p5 : Pri w U s w5 := P4.out.drew.next hb
  have P5 : Hid (Pri w U s w5) := p5
  clear hb P4 q4 b0 b1 b2 l4 hU4
  have q5 := p5.1.c5
  have b0 := p5.b0
  have b1 := p5.b1
  have b2 := p5.b2
  have l5 := lt_of_block p5.2.2.1
  have hU5 := p5.1.lt
  clear p5
  go_wp2_with fail
  go_region_held3 (fun w' => w'.cell? ⟨U, 5, none⟩ = some (.slice none 0 0) ∧ w'.cell? ⟨w.heap.size, 0, none⟩ = some (.int .i64 0) ∧ w'.cell? ⟨w.heap.size, 1, none⟩ = some (.string ⟨#[]⟩) ∧ w'.cell? ⟨w.heap.size, 2, none⟩ = some (.int .u8 0)) (first | go_keep | (go_split_ands; refine ⟨?_, ?_, ?_, ?_⟩ <;> (rw [hb.cell (by simp; omega)]; assumption)))
    ((go_at_call 27; refine (listed_nil _ _ _ _ _ rfl).mono ?_; rintro e w6 ⟨rfl, hb⟩))
  have p6 : Pri w U s w6 := P5.out.drew.next hb
  clear hb P5 q5 b0 b1 b2 l5 hU5
  have P6 : Hid (Pri w U s w6) := p6
  have r0 : w6.cell? ⟨w.heap.size + 1, 0, none⟩ = some (.int .u8 0) := (cell_of_row _ _ _ _ _ _ p6.2.2.1).trans rfl
  have r1 : w6.cell? ⟨w.heap.size + 1, 1, none⟩ = some (.int .i64 0) := (cell_of_row _ _ _ _ _ _ p6.2.2.1).trans rfl
  have f0 : w6.frozen? ⟨w.heap.size + 1, 0, none⟩ = false := frozen_of_row _ _ _ _ _ p6.2.2.1
  have f1 : w6.frozen? ⟨w.heap.size + 1, 1, none⟩ = false := frozen_of_row _ _ _ _ _ p6.2.2.1
  clear p6
  go_wp2
  refine bodyPost_ret (v := .tuple #[.agg #[.int .u8 3, .int .i64 0], .bool true]) (by simp [results, Ybad.results12, go_sem, r0, r1]) rfl ⟨rfl, ?_⟩
  exact (P6.out.2.2.2.setCell (by simp) _).setCell (by simp) _

set_option maxHeartbeats 1000000 in
set_option maxRecDepth 100000 in
/-- 'best' of a UE that receives no cell: none. -/
theorem best_nil (U : Nat) (s : UEs) (f : Value) (w : World) (hU : UEAt w U s) :
    Calls Ybad.prog 13 #[.pointer (some ⟨U, 0, none⟩), f] w fun e w' => e = .returned (.tuple #[.agg #[.int .i64 0, .string ⟨#[]⟩, .int .u8 0], .agg #[.int .u8 0, .int .i64 0], .bool false]) ∧ Below w.heap.size w w' := by
  have h16 := hU.c16
  have hlt := hU.lt
  go_enter Ybad.func13, Ybad.ntmps13
  go_wp2
  refine wp_loop_rounds 1 ?_
  rw [rounds_succ]
  go_wp2
  go_region
  all_goals go_wp2
  all_goals refine bodyPost_ret (v := .tuple #[.agg #[.int .i64 0, .string ⟨#[]⟩, .int .u8 0], .agg #[.int .u8 0, .int .i64 0], .bool false]) (by simp [results, Ybad.results13, go_sem]) rfl ⟨rfl, ?_⟩
  all_goals exact (((Below.refl _ _).alloc (Nat.le_refl _) _).alloc (by simp) _).drew
end Go.Proofs.YbulkrqsDoor
