/-
  Seat b0902aD. runs, highestTsorCM, startTsorCM, deregister, deregisterUnlessHeld (functions 20, 21, 22, 23, 31, 24), by contracts.
-/
import Derived.Test.YbulkrqsDoorHold
namespace Go.Proofs.YbulkrqsDoor
open Go.RowKit

set_option maxRecDepth 100000 in
/-- No timer runs. -/
theorem runs_none (U : Nat) (s : UEs) (a : Int) (b : ByteArray) (c : Bool) (w : World) (hn : s.tn = 0) (hU : UEAt w U s) :
    Calls Ybad.prog 20 #[.pointer (some ⟨U, 0, none⟩), .agg #[.int .u8 a, .string b, .bool c]] w fun e w' => e = .returned (.bool false) ∧ Below w.heap.size w w' := by
  have h29 := hU.c29
  rw [hn] at h29
  have hlt := hU.lt
  clear hn
  go_enter Ybad.func20, Ybad.ntmps20
  go_wp2
  refine wp_loop_rounds 1 ?_
  rw [rounds_succ]
  go_wp2
  go_ret
  exact ⟨rfl, (Below.refl _ _).alloc (Nat.le_refl _) _⟩

def secB : ByteArray := ⟨#[115, 101, 99, 117, 114, 105, 116, 121, 95, 99, 104, 101, 99, 107, 95, 102, 97, 105, 108, 101, 100]⟩
def allB : ByteArray := ⟨#[109, 97, 116, 99, 104, 95, 97, 108, 108]⟩
def critB (b : Bool) : ByteArray := if b then secB else allB
/-- The rules: a criterion and a value each. -/
def rulF (m : Nat → Bool) (z : Nat → Int) : Nat → List Value := fun k => [.string (critB (m k)), .string ⟨#[]⟩, .int .u8 0, .int .u32 0, .string ⟨#[]⟩, .int .i64 (z k)]

set_option maxRecDepth 100000 in
theorem secRule_any (b : Bool) (t : Int) (w : World) : Calls Ybad.prog 21 #[.agg #[.string (critB b), .string ⟨#[]⟩, .int .u8 0, .int .u32 0, .string ⟨#[]⟩, .int .i64 t]] w fun e w' => e = .returned (.bool b) ∧ Below w.heap.size w w' := by
  cases b
  · show Calls Ybad.prog 21 #[.agg #[.string allB, .string ⟨#[]⟩, .int .u8 0, .int .u32 0, .string ⟨#[]⟩, .int .i64 t]] w _
    unfold allB
    go_enter Ybad.func21, Ybad.ntmps21
    go_wp2
    go_ret
    exact ⟨rfl, (Below.refl _ _).alloc (Nat.le_refl _) _⟩
  · show Calls Ybad.prog 21 #[.agg #[.string secB, .string ⟨#[]⟩, .int .u8 0, .int .u32 0, .string ⟨#[]⟩, .int .i64 t]] w _
    unfold secB
    go_enter Ybad.func21, Ybad.ntmps21
    go_wp2
    go_ret
    exact ⟨rfl, (Below.refl _ _).alloc (Nat.le_refl _) _⟩

/-- The highest value among the first k rules that match, from 0 on; has one matched? -/
def hiV (z : Nat → Int) (m : Nat → Bool) : Nat → Int
  | 0 => 0
  | k + 1 => if m k then (if hiV z m k < z k then z k else hiV z m k) else hiV z m k
def okV (m : Nat → Bool) : Nat → Bool
  | 0 => false
  | k + 1 => if m k then true else okV m k

theorem run_index25 (a : Option Addr) (g len cap k : Nat) (ha : a = some ⟨g, 0, none⟩) (hk : k < len) (w : World) :
    (Instr.indexAt 25 (.slice a len cap) (.int .i64 (k : Int))).run Ybad.prog w = .ok (.pointer (some ⟨g, k * 6, none⟩)) w := run_indexS 25 6 (by kernel_rfl) (fun _ => by kernel_rfl) a g len cap k ha hk w

set_option maxHeartbeats 1000000 in
set_option maxRecDepth 100000 in
theorem highest_any (U : Nat) (s : UEs) (m : Nat → Bool) (z : Nat → Int) (w : World) (hn : s.rn ≤ 1025) (hU : UEAt w U s) (hR : Rws w U s.ra s.rn 6 (rulF m z)) :
    Calls Ybad.prog 22 #[.pointer (some ⟨U, 0, none⟩), .func (.func 21) #[] #[]] w fun e w' => e = .returned (.tuple #[.int .i64 (hiV z m s.rn), .bool (okV m s.rn)]) ∧ Below w.heap.size w w' := by
  have h11 := hU.c11
  have hlt0 := hU.lt
  go_enter Ybad.func22, Ybad.ntmps22
  go_wp2
  go_loopw [4, 5, 14] (fun v o i wr => ∃ k : Nat, k ≤ s.rn ∧ i = .int .i64 k ∧ v = .int .i64 (hiV z m k) ∧ o = .bool (okV m k) ∧ Below w.heap.size w wr) (fun _ _ i _ => s.rn - (intOf i).toNat)
  case atStart => exact ⟨0, Nat.zero_le _, rfl, rfl, rfl, Below.refl _ _⟩
  case round =>
    obtain ⟨k, hk, rfl, rfl, rfl, hbel⟩ := hrel
    by_cases hlt : k < s.rn
    · have hi2 : (k : Int) < (s.rn : Int) := by omega
      obtain ⟨g, ha, hne, hgl, hc⟩ := (hR.kept (gb_below hbel _)) k hlt
      have hx := run_index25 s.ra g s.rn s.rc k ha hlt
      have q0 := hc 0 _ rfl
      have q1 := hc 1 _ rfl
      have q2 := hc 2 _ rfl
      have q3 := hc 3 _ rfl
      have q4 := hc 4 _ rfl
      have q5 := hc 5 _ rfl
      simp only [Nat.add_zero] at q0
      have HBL : Hid (Below w.heap.size w wr) := hbel
      have hsw := hbel.size
      clear ha hc hbel
      go_wp2_with fail
      refine (secRule_any (m k) (z k) _).mono ?_
      rintro e w1 ⟨rfl, hb1⟩
      have r5 : w1.cell? ⟨wr.heap.size, 5, none⟩ = some (.int .i64 (z k)) := (hb1.cell (by simp)).trans (by rw [World.cell?_alloc_at _ _ _ _ rfl]; rfl)
      have HB1 : Hid (Below w.heap.size w w1) := (HBL.out.alloc hsw _).trans (hb1.mono (by simp; omega))
      have E1 : Hid (hiV z m (k + 1) = if m k then (if hiV z m k < z k then z k else hiV z m k) else hiV z m k) := (rfl : hiV z m (k + 1) = _)
      have E2 : Hid (okV m (k + 1) = if m k then true else okV m k) := (rfl : okV m (k + 1) = _)
      clear q0 q1 q2 q3 q4 q5 hx hb1 HBL
      by_cases hmk : m k = true
      · by_cases hlt2 : hiV z m k < z k
        · go_wp2
          go_roundw
          case rel => exact ⟨k + 1, by omega, by go_num, by rw [E1.out, if_pos hmk, if_pos hlt2], by rw [E2.out, if_pos hmk], HB1.out⟩
          case measure => simp [intOf]; omega
        · go_wp2
          go_roundw
          case rel => exact ⟨k + 1, by omega, by go_num, by rw [E1.out, if_pos hmk, if_neg (by omega)], by rw [E2.out, if_pos hmk], HB1.out⟩
          case measure => simp [intOf]; omega
      · have hmk' : m k = false := by simpa using hmk
        go_wp2
        go_roundw
        case rel => exact ⟨k + 1, by omega, by go_num, by rw [E1.out, if_neg hmk], by rw [E2.out, if_neg hmk], HB1.out⟩
        case measure => simp [intOf]; omega
    · have HK : Hid (k = s.rn) := by show k = s.rn; omega
      go_wp2
      go_ret2
      rw [← HK.out]
      exact ⟨rfl, hbel⟩

def deregV : Value := .iface 90 (.agg #[.string cmciB])

set_option maxRecDepth 100000 in
theorem deregister_any (U : Nat) (s : UEs) (w : World) (hU : UEAt w U s) :
    Calls Ybad.prog 31 #[.pointer (some ⟨U, 0, none⟩)] w fun e w' => ∃ v, e = .returned v ∧ w'.ownsRow w.heap.size 71 1 v 1 [deregV] ∧ w.grownBy w' (some U) ∧
      UEAt w' U { s with st := 6, reg := 1, sa := none, sn := 0, sc := 0, va := none, vn := 0, vc := 0 } := by
  have c15 := hU.c15
  have c20 := hU.c20
  have c27 := hU.c27
  have c28 := hU.c28
  have f15 := hU.free 15
  have f20 := hU.free 20
  have f27 := hU.free 27
  have f28 := hU.free 28
  have hlt := hU.lt
  obtain ⟨X, hX⟩ : ∃ X, X = ((((w.setCell ⟨U, 15, none⟩ (.int .u8 6)).setCell ⟨U, 20, none⟩ (.int .u8 1)).setCell ⟨U, 27, none⟩ (.slice none 0 0)).setCell ⟨U, 28, none⟩ (.slice none 0 0)) := ⟨_, rfl⟩
  have hXs : X.heap.size = w.heap.size := by rw [hX]; simp [World.setCell]
  have hXg : w.grownBy X (some U) := by rw [hX]; exact gb_set (gb_set (gb_set (gb_set (gb_refl _ _) _ _) _ _) _ _) _ _
  have hXU : UEAt X U { s with st := 6, reg := 1, sa := none, sn := 0, sc := 0, va := none, vn := 0, vc := 0 } := by rw [hX]; exact (((hU.set15 6).set20 1).set27 none 0 0).set28 none 0 0
  have hXo : (X.alloc (.cells #[deregV] 71)).ownsRow w.heap.size 71 1 (.slice (some ⟨w.heap.size, 0, none⟩) 1 1) 1 [deregV] := by
    have := World.ownsRow_lit (base := w.heap.size) (e := 71) (size := 1) X #[deregV] 1 (by omega) (by unfold maxLen; omega) (by simp)
    rw [hXs] at this
    exact this
  have HX : Hid (X = ((((w.setCell ⟨U, 15, none⟩ (.int .u8 6)).setCell ⟨U, 20, none⟩ (.int .u8 1)).setCell ⟨U, 27, none⟩ (.slice none 0 0)).setCell ⟨U, 28, none⟩ (.slice none 0 0))) := hX
  have HXG : Hid (w.grownBy X (some U)) := hXg
  have HXU : Hid (UEAt X U { s with st := 6, reg := 1, sa := none, sn := 0, sc := 0, va := none, vn := 0, vc := 0 }) := hXU
  have HO : Hid ((X.alloc (.cells #[deregV] 71)).ownsRow w.heap.size 71 1 (.slice (some ⟨w.heap.size, 0, none⟩) 1 1) 1 [deregV]) := hXo
  clear hX hXs hXg hXU hXo
  go_enter Ybad.func31, Ybad.ntmps31
  go_wp2
  go_ret
  refine ⟨_, rfl, ?_, ?_, ?_⟩
  · have := HO.out; rw [HX.out] at this; exact this
  · have := gb_alloc HXG.out (.cells #[deregV] 71); rw [HX.out] at this; exact this
  · have := At.alloc HXU.out (.cells #[deregV] 71); rw [HX.out] at this; exact this
end Go.Proofs.YbulkrqsDoor
