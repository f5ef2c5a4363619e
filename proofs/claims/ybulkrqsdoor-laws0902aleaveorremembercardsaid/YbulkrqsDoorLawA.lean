/-
  Seat b0902aD. THE WALKS OF 'LawS0902ALeaveOrRemember' (function 3).
-/
import Derived.Test.YbulkrqsDoorHold
namespace Go.Proofs.YbulkrqsDoor
open Go.RowKit

theorem Ybad.info33 : (Ybad.prog.info? 33).map (fun i => (i.zero, i.size, i.bytes)) = some (some (.agg #[.string ByteArray.empty, .string ByteArray.empty, .int .u8 0, .int .u32 0, .string ByteArray.empty, .int .i64 0]), 6, 64) := by kernel_rfl
theorem Ybad.info42 : (Ybad.prog.info? 42).map (fun i => (i.zero, i.size, i.bytes)) = some (some (.agg #[.int .u8 0, .string ByteArray.empty, .bool false, .int .u64 0, .int .i64 0, .pointer none, .int .i64 0]), 7, 64) := by kernel_rfl

def ruleF (d : Nat → Int) : Nat → List Value := fun k => [.string ⟨#[109, 97, 116, 99, 104, 95, 97, 108, 108]⟩, .string ⟨#[]⟩, .int .u8 0, .int .u32 0, .string ⟨#[]⟩, .int .i64 (d k)]

/-- The world behind a call that wrote the newest block alone. -/
theorem below_new {B : Nat} {w w2 w3 : World} {o : Obj} (h : Below B w w2) (hB : B ≤ w2.heap.size) (hg : (w2.alloc o).grownBy w3 (some w2.heap.size)) : Below B w w3 :=
  (h.alloc hB o).trans ⟨hg.os, hg.tape, hg.output, hg.size, fun i hi => hg.block i (by simp; omega) (by simp; omega)⟩

set_option maxRecDepth 100000 in
/-- Too long a list: true at once. -/
theorem lawA_long (nS : Int) (sa ra ta : Option Addr) (sl sc rl rc tl tc : Nat) (pt : Int) (w : World) (h : 1024 < sl ∨ 1024 < rl ∨ 1024 < tl) :
    Calls Ybad.prog 3 #[.int .u8 nS, .slice sa sl sc, .slice ra rl rc, .int .i64 pt, .slice ta tl tc] w fun e w' => e = .returned (.bool true) ∧ Below w.heap.size w w' := by
  by_cases h1 : 1024 < sl
  · have h1' : (1024 : Int) < (sl : Int) := by omega
    clear h
    go_enter Ybad.func3, Ybad.ntmps3
    go_wp2
    go_ret
    exact ⟨rfl, Below.refl _ _⟩
  · have h1' : ¬ (1024 : Int) < (sl : Int) := by omega
    by_cases h2 : 1024 < rl
    · have h2' : (1024 : Int) < (rl : Int) := by omega
      clear h
      go_enter Ybad.func3, Ybad.ntmps3
      go_wp2
      go_ret
      exact ⟨rfl, Below.refl _ _⟩
    · have h2' : ¬ (1024 : Int) < (rl : Int) := by omega
      have h3' : (1024 : Int) < (tl : Int) := by omega
      clear h
      go_enter Ybad.func3, Ybad.ntmps3
      go_wp2
      go_ret
      exact ⟨rfl, Below.refl _ _⟩

set_option maxRecDepth 100000 in
/-- Busy with rules: true at once. -/
theorem lawA_skip (nS : Nat) (sa ra ta : Option Addr) (sl sc rl rc tl tc : Nat) (pt : Int) (w : World) (hS : nS ≤ 255) (h1 : sl ≤ 1024) (h2 : rl ≤ 1024) (h3 : tl ≤ 1024) (hr : 0 < rl) (hb : 0 < nS % 4 ∨ 0 < sl) :
    Calls Ybad.prog 3 #[.int .u8 nS, .slice sa sl sc, .slice ra rl rc, .int .i64 pt, .slice ta tl tc] w fun e w' => e = .returned (.bool true) ∧ Below w.heap.size w w' := by
  have g1 : decide ((1024 : Int) < (sl : Int)) = false := by simp; omega
  have g2 : decide ((1024 : Int) < (rl : Int)) = false := by simp; omega
  have g3 : decide ((1024 : Int) < (tl : Int)) = false := by simp; omega
  have g4 : (0 : Int) < (rl : Int) := by omega
  obtain ⟨n, hn, hn4⟩ : ∃ n : Nat, (nS : Int) % 4 = (n : Int) ∧ n = nS % 4 := ⟨nS % 4, by omega, rfl⟩
  have hb' : 0 < n ∨ 0 < sl := by omega
  clear hb hn4
  by_cases hb1 : 0 < n
  · have hb1' : (0 : Int) < (n : Int) := by omega
    clear hb'
    go_enter Ybad.func3, Ybad.ntmps3
    go_wp2
    go_ret
    exact ⟨rfl, Below.refl _ _⟩
  · have hb1' : ¬ (0 : Int) < (n : Int) := by omega
    have hb2' : (0 : Int) < (sl : Int) := by omega
    clear hb'
    go_enter Ybad.func3, Ybad.ntmps3
    go_wp2
    go_ret
    exact ⟨rfl, Below.refl _ _⟩

set_option maxHeartbeats 2000000 in
set_option maxRecDepth 100000 in
/-- Busy, no rules: it remembers. -/
theorem lawA_remember1 (nS n : Nat) (sa ra ta : Option Addr) (sl sc rc tl tc : Nat) (pt : Int) (fs : Nat → ByteArray) (ft : Nat → Int) (w : World) (hn0 : (nS : Int) % 4 = (n : Int)) (hS : nS ≤ 255) (hn5 : n < 4) (h1 : sl ≤ 1024) (h3 : tl ≤ 1024) (hb1 : 0 < n)
    (hs : In w w.heap.size sa sl (fun k => .string (fs k))) (ht : In w w.heap.size ta tl (fun k => .int .u8 (ft k))) :
    Calls Ybad.prog 3 #[.int .u8 nS, .slice sa sl sc, .slice ra 0 rc, .int .i64 pt, .slice ta tl tc] w fun e w' => e = .returned (.bool true) ∧ Below w.heap.size w w' := by
  have g1 : decide ((1024 : Int) < (sl : Int)) = false := by simp; omega
  have g3 : decide ((1024 : Int) < (tl : Int)) = false := by simp; omega
  have HBZ : Hid (0 < n ∨ 0 < sl) := by show 0 < n ∨ 0 < sl; omega
  have hb2 : (0 : Int) < (nS : Int) % 4 := by omega
  have HN : Hid ((nS : Int) % 4 = (n : Int)) := hn0
  clear hn0
  go_enter Ybad.func3, Ybad.ntmps3
  go_wp2_with fail
  refine wp_loop_rounds 1 ?_
  rw [rounds_succ]
  go_wp2_with fail
  go_loopw [16, 74] (fun v i wr => ∃ k : Nat, k ≤ tl ∧ i = .int .i64 k ∧ wr.ownsRow w.heap.size 42 7 v k (flat (timF ft) k) ∧ Below w.heap.size w wr) (fun _ i _ => tl - (intOf i).toNat)
  case atStart => exact ⟨0, Nat.zero_le _, rfl, World.ownsRow_nil _ _ _ _, Below.refl _ _⟩
  case round =>
    obtain ⟨k, hk, rfl, hown, hbel⟩ := hrel
    by_cases hlt : k < tl
    · have hi2 : (k : Int) < (tl : Int) := by omega
      obtain ⟨b, off, ha, hb, hc⟩ := (ht.below hbel (Nat.le_refl _)) k hlt
      have hx := run_index24 ta b off tl tc k ha hlt
      clear ha
      go_wp2_with (at_builtin; refine wpList_append1 rfl (.tmp 78) (.tmp 82) 34 rfl w.heap.size 42 _ 7 64 Ybad.underlying34 Ybad.info42 rfl (by decide) (by decide) wr wr.heap.size rfl _ k (flat (timF ft) k) [.int .u8 (ft k), .string ⟨#[]⟩, .bool false, .int .u64 0, .int .i64 0, .pointer none, .int .i64 1] hown rfl rfl rfl (by simp [Value.oneCell']) (by omega) hbel.size ?_)
      intro v' w1 hown' hgr
      have hbel' : Below w.heap.size w w1 := hbel.grown hgr hbel.size (own_ge hown)
      clear hown hbel hgr hc hx
      go_wp2
      go_roundw
      case rel => exact ⟨k + 1, by omega, by go_num, hown', hbel'⟩
      case measure => simp [intOf]; omega
    · have HK : Hid (k = tl) := by show k = tl; omega
      obtain ⟨a16, c16, rfl, _⟩ := own_form hown
      rw [HK.out] at hown
      rw [HK.out]
      have HO16 : Hid (wr.ownsRow w.heap.size 42 7 (.slice a16 tl c16) tl (flat (timF ft) tl)) := hown
      have HBE : Hid (Below w.heap.size w wr) := hbel
      have hszr := hbel.size
      clear hown hbel hlt
      go_wp2_with fail
      rw [HN.out]
      refine (sessions_any n (by omega) _).mono ?_
      rintro e w1 ⟨v5, rfl, ho5, hb5⟩
      obtain ⟨a5, c5, rfl, _⟩ := own_form ho5
      have HB5 : Hid (Below w.heap.size w w1) := HBE.out.trans (hb5.mono hszr)
      have hsz1 := HB5.out.size
      clear ho5 hb5 HBE HO16
      go_wp2_with fail
      refine (services_any sa sl sc w.heap.size fs h1 _ hsz1 (hs.below HB5.out (Nat.le_refl _))).mono ?_
      rintro e w2 ⟨v6, rfl, ho6, hb6⟩
      obtain ⟨a6, c6, rfl, _⟩ := own_form ho6
      have HB6 : Hid (Below w.heap.size w w2) := HB5.out.trans (hb6.mono hsz1)
      have hsz2 := HB6.out.size
      clear ho6 hb6 HB5
      go_wp2_with fail
      obtain ⟨st, hst⟩ : ∃ st : UEs, st = { ra := none, rn := 0, rc := 0, st := 4, reg := 2, pt := pt, sor := ⟨#[]⟩, rel := false, due := false, sa := a5, sn := n, sc := c5, va := a6, vn := sl, vc := c6, ta := a16, tn := tl, tc := c16 } := ⟨_, rfl⟩
      refine (hold_remember w2.heap.size st _ (by rw [hst]) (by rw [hst]; exact HBZ.out) ?_).mono ?_
      · rw [hst]; exact At.new _ _
      rintro e w3 ⟨rfl, hg3, hU3⟩
      have c22 := hU3.c22
      have c15 := hU3.c15
      have c29 := hU3.c29
      have c27 := hU3.c27
      rw [hst] at c15 c29 c27
      have HB7 : Hid (Below w.heap.size w w3) := below_new HB6.out hsz2 hg3
      clear hst hg3 hU3
      unfold sorB at c22
      go_wp2
      go_ret
      exact ⟨rfl, HB7.out⟩

set_option maxHeartbeats 2000000 in
set_option maxRecDepth 100000 in
/-- Busy, no rules: it remembers. -/
theorem lawA_remember2 (nS n : Nat) (sa ra ta : Option Addr) (sl sc rc tl tc : Nat) (pt : Int) (fs : Nat → ByteArray) (ft : Nat → Int) (w : World) (hn0 : (nS : Int) % 4 = (n : Int)) (hS : nS ≤ 255) (hn5 : n < 4) (h1 : sl ≤ 1024) (h3 : tl ≤ 1024) (hb0 : n = 0) (hb1 : 0 < sl)
    (hs : In w w.heap.size sa sl (fun k => .string (fs k))) (ht : In w w.heap.size ta tl (fun k => .int .u8 (ft k))) :
    Calls Ybad.prog 3 #[.int .u8 nS, .slice sa sl sc, .slice ra 0 rc, .int .i64 pt, .slice ta tl tc] w fun e w' => e = .returned (.bool true) ∧ Below w.heap.size w w' := by
  have g1 : decide ((1024 : Int) < (sl : Int)) = false := by simp; omega
  have g3 : decide ((1024 : Int) < (tl : Int)) = false := by simp; omega
  have HBZ : Hid (0 < n ∨ 0 < sl) := by show 0 < n ∨ 0 < sl; omega
  have hb2 : ¬ (0 : Int) < (nS : Int) % 4 := by omega
  have hb3 : (0 : Int) < (sl : Int) := by omega
  clear hb0
  have HN : Hid ((nS : Int) % 4 = (n : Int)) := hn0
  clear hn0
  go_enter Ybad.func3, Ybad.ntmps3
  go_wp2_with fail
  refine wp_loop_rounds 1 ?_
  rw [rounds_succ]
  go_wp2_with fail
  go_loopw [16, 74] (fun v i wr => ∃ k : Nat, k ≤ tl ∧ i = .int .i64 k ∧ wr.ownsRow w.heap.size 42 7 v k (flat (timF ft) k) ∧ Below w.heap.size w wr) (fun _ i _ => tl - (intOf i).toNat)
  case atStart => exact ⟨0, Nat.zero_le _, rfl, World.ownsRow_nil _ _ _ _, Below.refl _ _⟩
  case round =>
    obtain ⟨k, hk, rfl, hown, hbel⟩ := hrel
    by_cases hlt : k < tl
    · have hi2 : (k : Int) < (tl : Int) := by omega
      obtain ⟨b, off, ha, hb, hc⟩ := (ht.below hbel (Nat.le_refl _)) k hlt
      have hx := run_index24 ta b off tl tc k ha hlt
      clear ha
      go_wp2_with (at_builtin; refine wpList_append1 rfl (.tmp 78) (.tmp 82) 34 rfl w.heap.size 42 _ 7 64 Ybad.underlying34 Ybad.info42 rfl (by decide) (by decide) wr wr.heap.size rfl _ k (flat (timF ft) k) [.int .u8 (ft k), .string ⟨#[]⟩, .bool false, .int .u64 0, .int .i64 0, .pointer none, .int .i64 1] hown rfl rfl rfl (by simp [Value.oneCell']) (by omega) hbel.size ?_)
      intro v' w1 hown' hgr
      have hbel' : Below w.heap.size w w1 := hbel.grown hgr hbel.size (own_ge hown)
      clear hown hbel hgr hc hx
      go_wp2
      go_roundw
      case rel => exact ⟨k + 1, by omega, by go_num, hown', hbel'⟩
      case measure => simp [intOf]; omega
    · have HK : Hid (k = tl) := by show k = tl; omega
      obtain ⟨a16, c16, rfl, _⟩ := own_form hown
      rw [HK.out] at hown
      rw [HK.out]
      have HO16 : Hid (wr.ownsRow w.heap.size 42 7 (.slice a16 tl c16) tl (flat (timF ft) tl)) := hown
      have HBE : Hid (Below w.heap.size w wr) := hbel
      have hszr := hbel.size
      clear hown hbel hlt
      go_wp2_with fail
      rw [HN.out]
      refine (sessions_any n (by omega) _).mono ?_
      rintro e w1 ⟨v5, rfl, ho5, hb5⟩
      obtain ⟨a5, c5, rfl, _⟩ := own_form ho5
      have HB5 : Hid (Below w.heap.size w w1) := HBE.out.trans (hb5.mono hszr)
      have hsz1 := HB5.out.size
      clear ho5 hb5 HBE HO16
      go_wp2_with fail
      refine (services_any sa sl sc w.heap.size fs h1 _ hsz1 (hs.below HB5.out (Nat.le_refl _))).mono ?_
      rintro e w2 ⟨v6, rfl, ho6, hb6⟩
      obtain ⟨a6, c6, rfl, _⟩ := own_form ho6
      have HB6 : Hid (Below w.heap.size w w2) := HB5.out.trans (hb6.mono hsz1)
      have hsz2 := HB6.out.size
      clear ho6 hb6 HB5
      go_wp2_with fail
      obtain ⟨st, hst⟩ : ∃ st : UEs, st = { ra := none, rn := 0, rc := 0, st := 4, reg := 2, pt := pt, sor := ⟨#[]⟩, rel := false, due := false, sa := a5, sn := n, sc := c5, va := a6, vn := sl, vc := c6, ta := a16, tn := tl, tc := c16 } := ⟨_, rfl⟩
      refine (hold_remember w2.heap.size st _ (by rw [hst]) (by rw [hst]; exact HBZ.out) ?_).mono ?_
      · rw [hst]; exact At.new _ _
      rintro e w3 ⟨rfl, hg3, hU3⟩
      have c22 := hU3.c22
      have c15 := hU3.c15
      have c29 := hU3.c29
      have c27 := hU3.c27
      rw [hst] at c15 c29 c27
      have HB7 : Hid (Below w.heap.size w w3) := below_new HB6.out hsz2 hg3
      clear hst hg3 hU3
      unfold sorB at c22
      go_wp2
      go_ret
      exact ⟨rfl, HB7.out⟩

end Go.Proofs.YbulkrqsDoor
