/-
  Seat b0905a. nodeSet.add (function 13).
-/
import Derived.Test.YbulkrsiBase
namespace Go.Proofs.Ybulkrsi
open Go.RowKit

theorem Fr.drewN {X : Nat → Prop} {w w' : World} (h : Fr X w w') (n : Nat) : Fr X w (w'.drewN n) := ⟨below_drewN h.env n, h.block⟩
theorem Fr.set {X : Nat → Prop} {w w' : World} (h : Fr X w w') (a : Addr) (v : Value) (hx : X a.block) : Fr X w (w'.setCell a v) :=
  ⟨h.env.setCell (Nat.zero_le _) v, fun b hb hn => (heap_setCell_other _ _ _ _ (fun e => hn (by rw [e]; exact hx))).trans (h.block b hb hn)⟩
theorem Fr.grown {X : Nat → Prop} {w w' w'' : World} {r : Option Nat} (h : Fr X w w') (k : w'.grownBy w'' r) (hr : ∀ g, r = some g → g < w.heap.size → X g) : Fr X w w'' :=
  ⟨⟨k.os.trans h.env.os, k.tape.trans h.env.tape, k.output.trans h.env.output, Nat.le_trans h.env.size k.size, fun b hb => by omega⟩, fun b hb hn => (k.block b (Nat.lt_of_lt_of_le hb h.env.size) (fun e => hn (hr b e.symm hb))).trans (h.block b hb hn)⟩

theorem own_form {w : World} {B : Nat} {e : TypeId} {size : Nat} {v : Value} {n : Nat} {xs : List Value} (h : w.ownsRow B e size v n xs) : ∃ a c, v = .slice a n c := by
  rcases h.2 with ⟨rfl, rfl⟩ | ⟨g, cap, cur, rfl, _⟩
  · exact ⟨none, 0, rfl⟩
  · exact ⟨_, cap, rfl⟩

theorem add_old (N H A n p : Nat) (h : Nat → Bool) (w : World) (hp : p < n) (hc0 : w.cell? ⟨N, 0, none⟩ = some (.slice (some ⟨H, 0, none⟩) n n)) (hH : Bools w H n h) (hi : w.cell? ⟨A, p * 4 + 1, none⟩ = some (.int .i64 p)) (hh : h p = true) :
    Calls Yba.prog 13 #[.pointer (some ⟨N, 0, none⟩), nd A p] w fun e w' => e = .returned (.bool false) ∧ ∃ k, w' = w.drewN k := by
  have hb := hH.cell p hp
  rw [hh] at hb
  have hlt : (p : Int) < (n : Int) := by omega
  clear hh
  unfold nd
  go_enter Yba.func13, Yba.ntmps13
  go_wp2
  go_quiet (fail)
  go_wp2
  go_ret
  exact ⟨rfl, _, rfl⟩

set_option maxHeartbeats 1000000 in
set_option maxRecDepth 100000 in
theorem add_new (B N H A n p : Nat) (v : Value) (h : Nat → Bool) (l : List Nat) (w : World) (hp : p < n) (hl : l.length ≤ 1000) (hA : A < B) (hB : B ≤ w.heap.size) (hS : SetAt w B N H A n v h l) (hi : w.cell? ⟨A, p * 4 + 1, none⟩ = some (.int .i64 p)) (hh : h p = false) :
    Calls Yba.prog 13 #[.pointer (some ⟨N, 0, none⟩), nd A p] w fun e w' => e = .returned (.bool true) ∧ ∃ v', SetAt w' B N H A n v' (upd h p true) (l ++ [p]) ∧ Fr (fun b => b = N ∨ b = H ∨ v.ownBlock = some b) w w' ∧
      (v'.ownBlock = v.ownBlock ∨ ∃ g, v'.ownBlock = some g ∧ w.heap.size ≤ g) := by
  have hb := hS.hold.cell p hp
  rw [hh] at hb
  have hfb := hS.hold.free p
  have hc0 : w.cell? ⟨N, 0, none⟩ = some (.slice (some ⟨H, 0, none⟩) n n) := (hS.at_.cell 0).trans rfl
  have hc1 : w.cell? ⟨N, 1, none⟩ = some v := (hS.at_.cell 1).trans rfl
  have hf1 := hS.at_.free 1
  have hlt : (p : Int) < (n : Int) := by omega
  have hNH := hS.ne
  have hNA : N ≠ A := by have := hS.hN; omega
  have hHA : H ≠ A := by have := hS.hH; omega
  have HS := mkHid hS
  clear hh hS
  unfold nd
  go_enter Yba.func13, Yba.ntmps13
  go_wp2
  go_quiet (fail)
  go_wp2
  go_region_held3 (fun w' => w'.cell? ⟨N, 0, none⟩ = some (.slice (some ⟨H, 0, none⟩) n n) ∧ w'.cell? ⟨A, p * 4 + 1, none⟩ = some (.int .i64 p))
    ((first | (simp [*]; done) | (refine ⟨(World.cell?_setCell_far _ _ _ _ (Ne.symm hNH)).trans ?_, (World.cell?_setCell_far _ _ _ _ hHA).trans ?_⟩ <;> simp [*]; done) | fail)) ((fail))
  obtain ⟨w1, hw1⟩ : ∃ w1, ((w.drewN (nq + 1)).setCell ⟨H, p, none⟩ (.bool true)) = w1 := ⟨_, rfl⟩
  rw [hw1]
  have hF1 : Fr (fun b => b = N ∨ b = H ∨ v.ownBlock = some b) w w1 := by rw [← hw1]; exact ((Fr.refl _ _).drewN _).set _ _ (.inr (.inl rfl))
  have hA1 : At w1 N (.cells #[.slice (some ⟨H, 0, none⟩) n n, v] 46 (0, 0)) := by rw [← hw1]; exact At.other (At.drewN HS.out.at_ _) _ _ hNH
  have hB1 : Bools w1 H n (upd h p true) := by rw [← hw1]; exact Bools.set (w := w.drewN (nq + 1)) HS.out.hold p true
  have hR1 : w1.ownsRow B 44 1 v l.length (l.map (nd A)) := by
    rw [← hw1]
    refine ⟨HS.out.row.1, ?_⟩
    rcases HS.out.row.2 with h0 | ⟨g, cap, cur, rfl, hg, hgg, rest⟩
    · exact .inl h0
    · exact .inr ⟨g, cap, cur, rfl, hg, (heap_setCell_other _ _ _ _ (HS.out.rowNe g rfl).2.1).trans hgg, rest⟩
  have hsz : B ≤ w1.heap.size := Nat.le_trans hB hF1.env.size
  have hszw : w.heap.size ≤ w1.heap.size := hF1.env.size
  have k1 : w1.cell? ⟨N, 1, none⟩ = some v := (hA1.cell 1).trans rfl
  have kf := hA1.free 1
  have HF1 := mkHid hF1
  have HA1 := mkHid hA1
  have HB1 := mkHid hB1
  have HR1 := mkHid hR1
  clear hw1 hF1 hA1 hB1 hR1 hb hfb hc0 hc1 hf1 hi
  go_wp2_with (at_builtin; refine wpList_app rfl (.tmp 28) (.tmp 30) rfl B w1 w1.heap.size rfl v l.length (l.map (nd A)) (nd A p) HR1.out rfl rfl rfl (by omega) hsz ?_)
  intro v' w2 ho2 hg2 hv2
  obtain ⟨a', c', rfl⟩ := own_form ho2
  have hrn : ∀ g, v.ownBlock = some g → g ≠ N ∧ g ≠ H ∧ B ≤ g ∧ g < w.heap.size := HS.out.rowNe
  have hA2 : At w2 N (.cells #[.slice (some ⟨H, 0, none⟩) n n, v] 46 (0, 0)) := (hg2.block N HA1.out.lt (fun e => (hrn N e.symm).1 rfl)).trans HA1.out
  have hB2 : Bools w2 H n (upd h p true) := HB1.out.keep (hg2.block H HB1.out.lt (fun e => (hrn H e.symm).2.1 rfl))
  have hF2 : Fr (fun b => b = N ∨ b = H ∨ v.ownBlock = some b) w w2 := HF1.out.grown hg2 (fun g e _ => .inr (.inr e))
  have j1 : w2.cell? ⟨N, 1, none⟩ = some v := (hA2.cell 1).trans rfl
  have jf := hA2.free 1
  have HA2 := mkHid hA2
  have HB2 := mkHid hB2
  have HF2 := mkHid hF2
  have HO2 := mkHid ho2
  have HV2 := mkHid hv2
  clear hA2 hB2 hF2 ho2 hg2 hv2 hrn HA1 HB1 HF1 HR1 k1 kf
  go_wp2
  go_ret
  have hv' : ∀ g, (Value.slice a' (l.length + 1) c').ownBlock = some g → g ≠ N := by
    intro g hg
    rcases HO2.out.2 with ⟨_, h0⟩ | ⟨g', cap, cur, e, hb, hgg, _⟩
    · omega
    · rw [e] at hg
      simp [Value.ownBlock] at hg
      subst hg
      exact At.ne hgg HA2.out (by decide)
  refine ⟨rfl, _, ⟨HS.out.hN, HS.out.hH, HA2.out.set 1 _, HB2.out.keep (heap_setCell_other _ _ _ _ (Ne.symm hNH)), ?_⟩, HF2.out.set _ _ (.inl rfl), ?_⟩
  · have hrow : w2.ownsRow B 44 1 (.slice a' (l.length + 1) c') (l ++ [p]).length ((l ++ [p]).map (nd A)) := by simpa using HO2.out
    refine ⟨hrow.1, ?_⟩
    rcases hrow.2 with h0 | ⟨g, cap, cur, e, hg, hgg, rest⟩
    · exact .inl h0
    · exact .inr ⟨g, cap, cur, e, hg, (heap_setCell_other _ _ _ _ (hv' g (by rw [e]; rfl))).trans hgg, rest⟩
  · rcases HV2.out with h0 | ⟨g, hg, hge⟩
    · exact .inl h0
    · exact .inr ⟨g, hg, by omega⟩
end Go.Proofs.Ybulkrsi
