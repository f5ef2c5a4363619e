/-
  Seat b0902a. '(*UE).highestTsorCM' (function 5) with the law's closure, by a contract.
-/
import Derived.Test.YbulkrqsClos
namespace Go.Proofs.Ybulkrqs
open Go.RowKit

/-- The highest value among the first k rules that match, from 0 on. -/
def hi (z : Nat → Int) (m : Nat → Bool) : Nat → Int
  | 0 => 0
  | k + 1 => if m k then (if hi z m k < z k then z k else hi z m k) else hi z m k
/-- Has one of the first k matched? -/
def ok (m : Nat → Bool) : Nat → Bool
  | 0 => false
  | k + 1 => if m k then true else ok m k

theorem grownBy_trans {a b c : World} {r : Option Nat} (h : a.grownBy b r) (k : b.grownBy c r) : a.grownBy c r :=
  ⟨k.os.trans h.os, k.tape.trans h.tape, k.output.trans h.output, Nat.le_trans h.size k.size, fun i hi hne => (k.block i (Nat.lt_of_lt_of_le hi h.size) hne).trans (h.block i hi hne)⟩
theorem grownBy_refl (w : World) (r : Option Nat) : w.grownBy w r := ⟨rfl, rfl, rfl, Nat.le_refl _, fun _ _ _ => rfl⟩
theorem cell_kept {w w' : World} {Bc : Nat} (hg : w.grownBy w' (some Bc)) {a : Addr} {v : Value} (h : w.cell? a = some v) (hne : a.block ≠ Bc) : w'.cell? a = some v :=
  hg.cell h (fun e => hne (Option.some.inj e))

/-- What is known of the slice 'durs', in whatever world. -/
def DursAt (w : World) (Bc : Nat) (da : Option Addr) (len : Nat) (z : Nat → Int) : Prop :=
  ∀ k, k < len → ∃ b off, da = some ⟨b, off, none⟩ ∧ b ≠ Bc ∧ w.cell? ⟨b, off + k, none⟩ = some (.int .i64 (z k))
/-- What is known of the slice 'mask'. -/
def MaskAt (w : World) (Bc : Nat) (ma : Option Addr) (ml : Nat) (m : Nat → Bool) : Prop :=
  (ml = 0 ∧ ∀ k, m k = false) ∨ (0 < ml ∧ ml ≤ 1024 ∧ ∃ mb mo, ma = some ⟨mb, mo, none⟩ ∧ mb ≠ Bc ∧ ∀ k, w.cell? ⟨mb, mo + k % ml, none⟩ = some (.bool (m k)))

theorem DursAt.kept {w w' : World} {Bc : Nat} {da : Option Addr} {len : Nat} {z : Nat → Int} (h : DursAt w Bc da len z) (hg : w.grownBy w' (some Bc)) : DursAt w' Bc da len z := fun k hk => by
  obtain ⟨b, off, e, hne, hc⟩ := h k hk
  exact ⟨b, off, e, hne, cell_kept hg hc hne⟩
theorem MaskAt.kept {w w' : World} {Bc : Nat} {ma : Option Addr} {ml : Nat} {m : Nat → Bool} (h : MaskAt w Bc ma ml m) (hg : w.grownBy w' (some Bc)) : MaskAt w' Bc ma ml m := by
  rcases h with h | ⟨h0, h1, mb, mo, e, hne, hc⟩
  · exact .inl h
  · exact .inr ⟨h0, h1, mb, mo, e, hne, fun k => cell_kept hg (hc k) hne⟩

/-- The closure, whatever the mask. -/
theorem clos (Bc Bd Bi Bm : Nat) (c d sv : ByteArray) (s : Int) (k len cap ml mc : Nat) (z : Nat → Int) (m : Nat → Bool) (da ma : Option Addr) (w : World)
    (hk : k < len) (hl : len ≤ 1024) (hcB : w.heap[Bc]? = some (.cells #[.int .i64 k] 3 (0, 0)))
    (hdB : w.cell? ⟨Bd, 0, none⟩ = some (.slice da len cap)) (hmB : w.cell? ⟨Bm, 0, none⟩ = some (.slice ma ml mc))
    (hD : DursAt w Bc da len z) (hM : MaskAt w Bc ma ml m) (hne : ¬ Bc = Bm) :
    Calls Yba.prog 4 #[.agg #[.string c, .string d, .int .u8 s, .int .u32 k, .string sv, .int .i64 (z k)], .pointer (some ⟨Bc, 0, none⟩), .pointer (some ⟨Bd, 0, none⟩), .pointer (some ⟨Bi, 0, none⟩), .pointer (some ⟨Bm, 0, none⟩)] w fun e w' =>
      e = .returned (.bool (m k)) ∧ Stepped w w' Bc (.int .i64 (k + 1)) := by
  obtain ⟨b, off, rfl, hne1, hz⟩ := hD k hk
  rcases hM with ⟨rfl, hm⟩ | ⟨h0, h1, mb, mo, rfl, hne2, hx⟩
  · rw [hm k]
    exact clos_none Bc Bd Bi Bm c d sv s k len cap mc b off (z k) ma w hk hl hcB hdB hmB hz hne
  · exact clos_some Bc Bd Bi Bm c d sv s k len cap ml mc b off mb mo (z k) (m k) w hk hl h0 h1 hcB hdB hmB hz (hx k) hne (Ne.symm hne2)

/-- The six cells of rule j. -/
def RuleAt (w : World) (R : Nat) (z : Nat → Int) (j : Nat) : Prop :=
  w.cell? ⟨R, j * 6, none⟩ = some (.string ⟨#[]⟩) ∧ w.cell? ⟨R, j * 6 + 1, none⟩ = some (.string ⟨#[]⟩) ∧ w.cell? ⟨R, j * 6 + 2, none⟩ = some (.int .u8 0) ∧
  w.cell? ⟨R, j * 6 + 3, none⟩ = some (.int .u32 j) ∧ w.cell? ⟨R, j * 6 + 4, none⟩ = some (.string ⟨#[]⟩) ∧ w.cell? ⟨R, j * 6 + 5, none⟩ = some (.int .i64 (z j))
theorem RuleAt.kept {w w' : World} {Bc R : Nat} {z : Nat → Int} {j : Nat} (h : RuleAt w R z j) (hg : w.grownBy w' (some Bc)) (hne : R ≠ Bc) : RuleAt w' R z j := by
  obtain ⟨h0, h1, h2, h3, h4, h5⟩ := h
  exact ⟨cell_kept hg h0 hne, cell_kept hg h1 hne, cell_kept hg h2 hne, cell_kept hg h3 hne, cell_kept hg h4 hne, cell_kept hg h5 hne⟩

set_option maxHeartbeats 1000000 in
set_option maxRecDepth 100000 in
theorem high (U R Bc Bd Bi Bm : Nat) (len cap ml mc : Nat) (z : Nat → Int) (m : Nat → Bool) (da ma : Option Addr) (w : World)
    (hl : len ≤ 1024) (hcB : w.heap[Bc]? = some (.cells #[.int .i64 0] 3 (0, 0)))
    (hU : w.cell? ⟨U, 11, none⟩ = some (.slice (some ⟨R, 0, none⟩) len len)) (hR : ∀ j, j < len → RuleAt w R z j) (hRc : R ≠ Bc)
    (hdB : w.cell? ⟨Bd, 0, none⟩ = some (.slice da len cap)) (hmB : w.cell? ⟨Bm, 0, none⟩ = some (.slice ma ml mc))
    (hD : DursAt w Bc da len z) (hM : MaskAt w Bc ma ml m) (hdc : Bd ≠ Bc) (hmc : Bm ≠ Bc) :
    Calls Yba.prog 5 #[.pointer (some ⟨U, 0, none⟩), .func (.func 4) #[] #[.pointer (some ⟨Bc, 0, none⟩), .pointer (some ⟨Bd, 0, none⟩), .pointer (some ⟨Bi, 0, none⟩), .pointer (some ⟨Bm, 0, none⟩)]] w fun e w' =>
      e = .returned (.tuple #[.int .i64 (hi z m len), .bool (ok m len)]) ∧ Stepped w w' Bc (.int .i64 len) := by
  go_enter Yba.func5, Yba.ntmps5
  go_wp2
  go_loopw [4, 5, 14] (fun v o i wr => ∃ k : Nat, k ≤ len ∧ i = .int .i64 k ∧ v = .int .i64 (hi z m k) ∧ o = .bool (ok m k) ∧ Stepped w wr Bc (.int .i64 k)) (fun _ _ i _ => len - (intOf i).toNat)
  case atStart => exact ⟨0, Nat.zero_le _, rfl, rfl, rfl, grownBy_refl _ _, hcB⟩
  case round =>
    obtain ⟨k, hk, rfl, rfl, rfl, hst⟩ := hrel
    by_cases hlt : k < len
    · obtain ⟨q0, q1, q2, q3, q4, q5⟩ := (hR k hlt).kept hst.1 hRc
      have hBl : Bc < wr.heap.size := lt_of_block hst.2
      have hRl := block_lt_of_cell q0
      have hi1 : (0 : Int) ≤ (k : Int) := by omega
      have hi2 : (k : Int) < (len : Int) := by omega
      go_wp2_with fail
      refine (clos Bc Bd Bi Bm _ _ _ _ k len cap ml mc z m da ma _ hlt hl ?_ ?_ ?_ ?_ ?_ (Ne.symm hmc)).mono ?_
      · rw [Below.heap_alloc _ _ _ hBl]; exact hst.2
      · exact cell_kept (grownBy_trans hst.1 (World.grownBy_alloc _ _ _)) hdB hdc
      · exact cell_kept (grownBy_trans hst.1 (World.grownBy_alloc _ _ _)) hmB hmc
      · exact hD.kept (grownBy_trans hst.1 (World.grownBy_alloc _ _ _))
      · exact hM.kept (grownBy_trans hst.1 (World.grownBy_alloc _ _ _))
      rintro e w1 ⟨rfl, hs1⟩
      have r5 : w1.cell? ⟨wr.heap.size, 5, none⟩ = some (.int .i64 (z k)) := cell_kept hs1.1 (by rw [World.cell?_alloc_at _ _ _ _ rfl]; rfl) (by simp; omega)
      have hs2 : Stepped w w1 Bc (.int .i64 ((k + 1 : Nat) : Int)) := ⟨grownBy_trans (grownBy_trans hst.1 (World.grownBy_alloc _ _ _)) hs1.1, hs1.2⟩
      have Hs2 : Hid (Stepped w w1 Bc (.int .i64 ((k + 1 : Nat) : Int))) := hs2
      clear hs2 hs1 q0 q1 q2 q3 q4 q5 hst hcB hU hdB hmB
      have e1 : hi z m (k + 1) = if m k then (if hi z m k < z k then z k else hi z m k) else hi z m k := rfl
      have e2 : ok m (k + 1) = if m k then true else ok m k := rfl
      have E1 : Hid (hi z m (k + 1) = if m k then (if hi z m k < z k then z k else hi z m k) else hi z m k) := e1
      have E2 : Hid (ok m (k + 1) = if m k then true else ok m k) := e2
      clear e1 e2
      by_cases hmk : m k = true
      · go_wp2
        go_roundw
        case rel => exact ⟨k + 1, by omega, by go_num, by rw [E1.out, if_pos hmk], by rw [E2.out, if_pos hmk], Hs2.out⟩
        case measure => simp [intOf]; omega
      · have hmk' : m k = false := by simpa using hmk
        go_wp2
        go_roundw
        case rel => exact ⟨k + 1, by omega, by go_num, by rw [E1.out, if_neg hmk], by rw [E2.out, if_neg hmk], Hs2.out⟩
        case measure => simp [intOf]; omega
    · obtain rfl : k = len := by omega
      go_wp2
      go_ret2
      exact ⟨rfl, hst⟩
end Go.Proofs.Ybulkrqs
