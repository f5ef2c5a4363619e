/-
  Seat b0907aD. The generator in memory, and the contracts of the small functions on the road.
-/
import Derived.Test.YbulkrtkDoorRows
import Derived.WalkKit
import Derived.WalkLawsBesides
import Derived.Deep.QuietTactic
import Derived.BigQuiet
import Derived.RegionTactic
import Derived.Deep.RegionHeld3
import Derived.Laws.LoneSync
namespace Go.Proofs.YbulkrtkDoor
open Go.RowKit

/-- Block b of w is o. -/
def At (w : World) (b : Nat) (o : Obj) : Prop := w.heap[b]? = some o

section
variable {w w' : World} {b : Nat} {o : Obj}
theorem At.lt (h : At w b o) : b < w.heap.size := lt_of_block h
theorem At.alloc (h : At w b o) (x : Obj) : At (w.alloc x) b o := (Below.heap_alloc _ _ _ h.lt).trans h
theorem At.drew (h : At w b o) : At w.drew b o := h
theorem At.other (h : At w b o) (a : Addr) (v : Value) (hne : b ≠ a.block) : At (w.setCell a v) b o := (heap_setCell_other _ _ _ _ hne).trans h
theorem At.below {B : Nat} (h : At w b o) (hb : Below B w w') (hB : b < B) : At w' b o := (hb.block b hB).trans h
theorem At.new (w : World) (x : Obj) : At (w.alloc x) w.heap.size x := heap_alloc_new w x
theorem At.cell {C : Array Value} {t : TypeId} (h : At w b (.cells C t (0, 0))) (i : Nat) : w.cell? ⟨b, i, none⟩ = C[i]? := cell_of_row _ _ _ _ _ _ h
theorem At.free {C : Array Value} {t : TypeId} (h : At w b (.cells C t (0, 0))) (i : Nat) : w.frozen? ⟨b, i, none⟩ = false := frozen_of_row _ _ _ _ _ h
theorem At.set {C : Array Value} {t : TypeId} (h : At w b (.cells C t (0, 0))) (i : Nat) (v : Value) : At (w.setCell ⟨b, i, none⟩ v) b (.cells (C.setIfInBounds i v) t (0, 0)) := heap_setCell_same _ _ _ _ _ _ h
end

theorem w63 (n : Int) (h₀ : 0 ≤ n) (h₁ : n < 2 ^ 63) : IntKind.i64.wrap n = n := by rw [IntKind.wrap_i64]; omega
/-- '|' of a high part and a low part. -/
theorem or_hi (j : Nat) (h l : Nat) (hl : l < 2 ^ j) (hb : 2 ^ j * h + l < 9223372036854775808) : bits .or .i64 ((2 ^ j * h : Nat) : Int) (l : Int) = ((2 ^ j * h + l : Nat) : Int) := by
  rw [(bits_nat .i64 63 (by decide) w63 (2 ^ j * h) l (by omega) (by omega)).2, Nat.two_pow_add_eq_or_of_lt hl]
theorem or_22 (h l : Int) (h0 : 0 ≤ h) (h1 : h < 2199023255552) (l0 : 0 ≤ l) (l1 : l < 4194304) : bits .or .i64 (h * 4194304) l = h * 4194304 + l := by
  obtain ⟨a, rfl⟩ := Int.eq_ofNat_of_zero_le h0
  obtain ⟨b, rfl⟩ := Int.eq_ofNat_of_zero_le l0
  have := or_hi 22 a b (by omega) (by omega)
  rw [show (a : Int) * 4194304 = ((2 ^ 22 * a : Nat) : Int) by omega, this]
  omega
theorem or_12 (h l : Int) (h0 : 0 ≤ h) (h1 : h < 2251799813685248) (l0 : 0 ≤ l) (l1 : l < 4096) : bits .or .i64 (h * 4096) l = h * 4096 + l := by
  obtain ⟨a, rfl⟩ := Int.eq_ofNat_of_zero_le h0
  obtain ⟨b, rfl⟩ := Int.eq_ofNat_of_zero_le l0
  have := or_hi 12 a b (by omega) (by omega)
  rw [show (a : Int) * 4096 = ((2 ^ 12 * a : Nat) : Int) by omega, this]
  omega
theorem and_4095 (n : Int) (h0 : 0 ≤ n) (h1 : n < 9223372036854775808) : bits .and .i64 n 4095 = n % 4096 := by
  obtain ⟨a, rfl⟩ := Int.eq_ofNat_of_zero_le h0
  have := (bits_nat .i64 63 (by decide) w63 a 4095 (by omega) (by omega)).1
  rw [show (4095 : Int) = ((4095 : Nat) : Int) from rfl, this, show (4095 : Nat) = 2 ^ 12 - 1 from rfl, Nat.and_two_pow_sub_one_eq_mod]
  omega
theorem and_1023 (n : Int) (h0 : 0 ≤ n) (h1 : n < 9223372036854775808) : bits .and .i64 n 1023 = n % 1024 := by
  obtain ⟨a, rfl⟩ := Int.eq_ofNat_of_zero_le h0
  have := (bits_nat .i64 63 (by decide) w63 a 1023 (by omega) (by omega)).1
  rw [show (1023 : Int) = ((1023 : Nat) : Int) from rfl, this, show (1023 : Nat) = 2 ^ 10 - 1 from rfl, Nat.and_two_pow_sub_one_eq_mod]
  omega

/-- The variable 'layouts', its first row, as the text lays it. -/
def Glob (w : World) : Prop := w.cell? ⟨1, 1, none⟩ = some (.int .i64 1) ∧ w.cell? ⟨1, 2, none⟩ = some (.int .u64 41) ∧ w.cell? ⟨1, 3, none⟩ = some (.int .u64 10) ∧ w.cell? ⟨1, 4, none⟩ = some (.int .u64 12)
theorem Glob.lt {w : World} (h : Glob w) : 1 < w.heap.size := block_lt_of_cell h.1
theorem Glob.below {w w' : World} {B : Nat} (h : Glob w) (hb : Below B w w') (hB : 1 < B) : Glob w' := by
  obtain ⟨h1, h2, h3, h4⟩ := h
  exact ⟨(hb.cell (p := ⟨1, 1, none⟩) hB).trans h1, (hb.cell (p := ⟨1, 2, none⟩) hB).trans h2, (hb.cell (p := ⟨1, 3, none⟩) hB).trans h3, (hb.cell (p := ⟨1, 4, none⟩) hB).trans h4⟩

theorem known_any (w : World) : Calls Ybad.prog 19 #[.int .u8 0] w fun e w' => e = .returned (.bool true) ∧ w' = w := by
  go_enter Ybad.func19, Ybad.ntmps19
  go_wp2
  go_ret
  exact ⟨rfl, rfl⟩

set_option maxRecDepth 100000 in
theorem widths_any (w : World) (hG : Glob w) : Calls Ybad.prog 12 #[.int .u8 0] w fun e w' => e = .returned (.agg #[.int .u64 41, .int .u64 10, .int .u64 12]) ∧ Below w.heap.size w w' := by
  have hlt := hG.lt
  obtain ⟨h1, h2, h3, h4⟩ := hG
  go_enter Ybad.func12, Ybad.ntmps12
  go_wp2_with fail
  refine (known_any _).mono ?_
  rintro e w1 ⟨rfl, hw⟩
  subst hw
  go_wp2
  refine bodyPost_ret (v := .agg #[.int .u64 41, .int .u64 10, .int .u64 12]) (by simp [results, Ybad.results12, go_sem]) rfl ⟨rfl, ?_⟩
  exact (Below.refl _ _).alloc (Nat.le_refl _) _

theorem unitMs_any (w : World) (hG : Glob w) : Calls Ybad.prog 13 #[.int .u8 0] w fun e w' => e = .returned (.int .i64 1) ∧ w' = w := by
  have hlt := hG.lt
  obtain ⟨h1, h2, h3, h4⟩ := hG
  go_enter Ybad.func13, Ybad.ntmps13
  go_wp2_with fail
  refine (known_any _).mono ?_
  rintro e w1 ⟨rfl, hw⟩
  subst hw
  go_wp2
  go_ret
  exact ⟨rfl, rfl⟩

theorem ones_41 (w : World) : Calls Ybad.prog 15 #[.int .u64 41] w fun e w' => e = .returned (.int .i64 2199023255551) ∧ w' = w := by
  go_enter Ybad.func15, Ybad.ntmps15
  go_wp2
  go_ret
  exact ⟨rfl, rfl⟩
theorem ones_12 (w : World) : Calls Ybad.prog 15 #[.int .u64 12] w fun e w' => e = .returned (.int .i64 4095) ∧ w' = w := by
  go_enter Ybad.func15, Ybad.ntmps15
  go_wp2
  go_ret
  exact ⟨rfl, rfl⟩

set_option maxRecDepth 100000 in
theorem maxTime_any (w : World) (hG : Glob w) : Calls Ybad.prog 14 #[.int .u8 0] w fun e w' => e = .returned (.int .i64 2199023255551) ∧ Below w.heap.size w w' := by
  have hfl : ∀ w : World, (Instr.field 40 (.agg #[.int .u64 41, .int .u64 10, .int .u64 12]) 0).run Ybad.prog w = .ok (.int .u64 41) w := fun w => by rfl
  go_enter Ybad.func14, Ybad.ntmps14
  go_wp2_with fail
  refine (widths_any _ hG).mono ?_
  rintro e w1 ⟨rfl, hb⟩
  go_wp2_with fail
  refine (ones_41 _).mono ?_
  rintro e w2 ⟨rfl, hw⟩
  subst hw
  go_wp2
  go_ret
  exact ⟨rfl, hb⟩

theorem limit_nil (w : World) : Calls Ybad.prog 22 #[.pointer none] w fun e w' => e = .returned (.int .i64 9223372036854775807) ∧ w' = w := by
  go_enter Ybad.func22, Ybad.ntmps22
  go_wp2
  go_ret
  exact ⟨rfl, rfl⟩

theorem load_any (b o : Nat) (x : Int) (w : World) (hc : w.cell? ⟨b, o, none⟩ = some (.int .i64 x)) : Calls Ybad.prog 23 #[.pointer (some ⟨b, o, none⟩)] w fun e w' => e = .returned (.int .i64 x) ∧ w' = w := by
  have hl := run_call_load (P := Ybad.prog) Ybad.func30 (by kernel_rfl) (by kernel_rfl) (by kernel_rfl) .i64 (by kernel_rfl) hc
  go_enter Ybad.func23, Ybad.ntmps23
  go_wp2
  go_ret
  exact ⟨rfl, rfl⟩
theorem store_any (b o : Nat) (x y : Int) (w : World) (hc : w.cell? ⟨b, o, none⟩ = some (.int .i64 x)) (hf : w.frozen? ⟨b, o, none⟩ = false) : Calls Ybad.prog 16 #[.pointer (some ⟨b, o, none⟩), .int .i64 y] w fun e w' => e = .returned (.tuple #[]) ∧ w' = w.setCell ⟨b, o, none⟩ (.int .i64 y) := by
  have hl := run_call_store (P := Ybad.prog) Ybad.func21 (by kernel_rfl) (by kernel_rfl) (by kernel_rfl) (by kernel_rfl) (k := .i64) (y := y) hc hf
  go_enter Ybad.func16, Ybad.ntmps16
  go_wp2
  go_end0
  exact ⟨rfl, rfl⟩
theorem cas_any (b o : Nat) (x y : Int) (w : World) (hc : w.cell? ⟨b, o, none⟩ = some (.int .i64 x)) (hf : w.frozen? ⟨b, o, none⟩ = false) : Calls Ybad.prog 25 #[.pointer (some ⟨b, o, none⟩), .int .i64 x, .int .i64 y] w fun e w' => e = .returned (.bool true) ∧ w' = w.setCell ⟨b, o, none⟩ (.int .i64 y) := by
  have hl := run_call_cas_hit (P := Ybad.prog) Ybad.func33 (by kernel_rfl) (by kernel_rfl) (by kernel_rfl) .i64 (by kernel_rfl) (y := y) hc hf
  go_enter Ybad.func25, Ybad.ntmps25
  go_wp2
  go_ret
  exact ⟨rfl, rfl⟩
end Go.Proofs.YbulkrtkDoor
