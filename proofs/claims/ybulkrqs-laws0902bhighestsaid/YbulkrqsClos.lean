/-
  Seat b0902a. THE CLOSURE 'LawS0902BHighest$1' (function 4), by a contract: it counts its calls, answers as the mask says, and leaves the flag alone.
-/
import Derived.Test.YbulkrqsRows
import Derived.WalkKit
import Derived.WalkLawsBesides
import Derived.Deep.QuietTactic
import Derived.BigQuiet
import Derived.RegionTactic
namespace Go.Proofs.Ybulkrqs
open Go.RowKit

/-- Behind a call of the closure: new blocks, and the counter's cell; nothing else has turned. -/
def Stepped (w w' : World) (Bc : Nat) (v : Value) : Prop := w.grownBy w' (some Bc) ∧ w'.heap[Bc]? = some (.cells #[v] 3 (0, 0))

theorem drewN_heap (w : World) (n : Nat) : (w.drewN n).heap = w.heap := by simp [World.drewN]
theorem grownBy_drewN {w w' : World} {r : Option Nat} (h : w.grownBy w' r) (n : Nat) : w.grownBy (w'.drewN n) r := ⟨h.os, h.tape, h.output, h.size, h.block⟩
theorem Stepped.drewN {w w' : World} {Bc : Nat} {v : Value} (h : Stepped w w' Bc v) (n : Nat) : Stepped w (w'.drewN n) Bc v := ⟨grownBy_drewN h.1 n, h.2⟩
theorem stepped_of {w : World} {Bc : Nat} {v0 : Value} (h : w.heap[Bc]? = some (.cells #[v0] 3 (0, 0))) (o : Obj) (n : Nat) (v : Value) :
    Stepped w (((w.alloc o).drewN n).setCell ⟨Bc, 0, none⟩ v) Bc v := by
  have hlt := lt_of_block h
  have hb : ((w.alloc o).drewN n).heap[Bc]? = some (.cells #[v0] 3 (0, 0)) := by rw [drewN_heap, Below.heap_alloc _ _ _ hlt]; exact h
  refine ⟨⟨rfl, rfl, rfl, ?_, fun k hk hne => ?_⟩, one_setCell hb⟩
  · simp [World.setCell]
  · rw [heap_setCell_other _ _ _ _ (fun e => hne (by rw [e])), drewN_heap, Below.heap_alloc _ _ _ hk]

theorem wrap32_small (k : Nat) (h : k ≤ 1024) : IntKind.u32.wrap (k : Int) = (k : Int) := by rw [IntKind.wrap_u32]; omega

set_option maxHeartbeats 400000 in
set_option maxRecDepth 100000 in
theorem clos_none (Bc Bd Bi Bm : Nat) (c d sv : ByteArray) (s : Int) (k len cap mc b off : Nat) (t : Int) (ma : Option Addr) (w : World)
    (hk : k < len) (hl : len ≤ 1024)
    (hcB : w.heap[Bc]? = some (.cells #[.int .i64 k] 3 (0, 0)))
    (hdB : w.cell? ⟨Bd, 0, none⟩ = some (.slice (some ⟨b, off, none⟩) len cap))
    (hmB : w.cell? ⟨Bm, 0, none⟩ = some (.slice ma 0 mc))
    (hz : w.cell? ⟨b, off + k, none⟩ = some (.int .i64 t))
    (hne : ¬ Bc = Bm) :
    Calls Yba.prog 4 #[.agg #[.string c, .string d, .int .u8 s, .int .u32 k, .string sv, .int .i64 t], .pointer (some ⟨Bc, 0, none⟩), .pointer (some ⟨Bd, 0, none⟩), .pointer (some ⟨Bi, 0, none⟩), .pointer (some ⟨Bm, 0, none⟩)] w fun e w' =>
      e = .returned (.bool false) ∧ Stepped w w' Bc (.int .i64 (k + 1)) := by
  have hst := fun o n => stepped_of (w := w) hcB o n (.int .i64 ((k : Int) + 1))
  have Hst : Hid (∀ o n, Stepped w (((w.alloc o).drewN n).setCell ⟨Bc, 0, none⟩ (.int .i64 ((k : Int) + 1))) Bc (.int .i64 ((k : Int) + 1))) := hst
  clear hst
  have c1 := cell_of_one hcB
  have c2 := free_of_one hcB
  have c3 := lt_of_block hcB
  have c4 : Bd < w.heap.size := block_lt_of_cell hdB
  have c5 : Bm < w.heap.size := block_lt_of_cell hmB
  have c6 : b < w.heap.size := block_lt_of_cell hz
  clear hcB
  have hg1 : decide ((len : Int) ≤ (k : Int)) = false := by simp; omega
  have hw32 := wrap32_small k (by omega)
  have hi1 : (0 : Int) ≤ (k : Int) := by omega
  have hi2 : (k : Int) < (len : Int) := by omega
  go_enter Yba.func4, Yba.ntmps4
  go_wp2
  go_quiet (fail)
  go_wp2
  go_ret
  exact ⟨rfl, Hst.out _ _⟩

set_option maxHeartbeats 400000 in
set_option maxRecDepth 100000 in
theorem clos_some (Bc Bd Bi Bm : Nat) (c d sv : ByteArray) (s : Int) (k len cap ml mc b off mb mo : Nat) (t : Int) (x : Bool) (w : World)
    (hk : k < len) (hl : len ≤ 1024) (hm0 : 0 < ml) (hm1 : ml ≤ 1024)
    (hcB : w.heap[Bc]? = some (.cells #[.int .i64 k] 3 (0, 0)))
    (hdB : w.cell? ⟨Bd, 0, none⟩ = some (.slice (some ⟨b, off, none⟩) len cap))
    (hmB : w.cell? ⟨Bm, 0, none⟩ = some (.slice (some ⟨mb, mo, none⟩) ml mc))
    (hz : w.cell? ⟨b, off + k, none⟩ = some (.int .i64 t))
    (hx : w.cell? ⟨mb, mo + k % ml, none⟩ = some (.bool x))
    (hne : ¬ Bc = Bm) (hne2 : ¬ Bc = mb) :
    Calls Yba.prog 4 #[.agg #[.string c, .string d, .int .u8 s, .int .u32 k, .string sv, .int .i64 t], .pointer (some ⟨Bc, 0, none⟩), .pointer (some ⟨Bd, 0, none⟩), .pointer (some ⟨Bi, 0, none⟩), .pointer (some ⟨Bm, 0, none⟩)] w fun e w' =>
      e = .returned (.bool x) ∧ Stepped w w' Bc (.int .i64 (k + 1)) := by
  have hst := fun o n => stepped_of (w := w) hcB o n (.int .i64 ((k : Int) + 1))
  have Hst : Hid (∀ o n, Stepped w (((w.alloc o).drewN n).setCell ⟨Bc, 0, none⟩ (.int .i64 ((k : Int) + 1))) Bc (.int .i64 ((k : Int) + 1))) := hst
  clear hst
  have c1 := cell_of_one hcB
  have c2 := free_of_one hcB
  have c3 := lt_of_block hcB
  have c4 : Bd < w.heap.size := block_lt_of_cell hdB
  have c5 : Bm < w.heap.size := block_lt_of_cell hmB
  have c6 : b < w.heap.size := block_lt_of_cell hz
  have c7 : mb < w.heap.size := block_lt_of_cell hx
  clear hcB
  have hg1 : decide ((len : Int) ≤ (k : Int)) = false := by simp; omega
  have hg2 : ((ml : Int) == 0) = false := by simp; omega
  have hw32 := wrap32_small k (by omega)
  have hi1 : (0 : Int) ≤ (k : Int) := by omega
  have hi2 : (k : Int) < (len : Int) := by omega
  have hi3 : (0 : Int) < (ml : Int) := by omega
  have hi4 : ¬ ml = 0 := by omega
  have hi5 : k % ml < ml := Nat.mod_lt _ hm0
  go_enter Yba.func4, Yba.ntmps4
  go_wp2
  go_quiet (fail)
  go_wp2
  go_quiet (fail)
  go_wp2
  go_ret
  exact ⟨rfl, (Hst.out _ _).drewN _⟩
end Go.Proofs.Ybulkrqs
