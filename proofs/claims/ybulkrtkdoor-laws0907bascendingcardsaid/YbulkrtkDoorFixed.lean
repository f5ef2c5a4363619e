/-
  Seat b0907aD. Next (function 8) where the first claim hits; LawS0907BFixedClock (function 3).
-/
import Derived.Test.YbulkrtkDoorClaim
import Derived.Shelf.Abstract
namespace Go.Proofs.YbulkrtkDoor
open Go.RowKit

theorem mkHid {p : Prop} (h : p) : Hid p := h

section
variable {B0 B1 : Nat} {f : FuncId} {cap : Array Value} {I : World → Nat → Prop} {rd : Nat → Int}

set_option maxHeartbeats 2000000 in
set_option maxRecDepth 100000 in
/-- Next where the claim hits. -/
theorem next_hit (hC : Clock B0 B1 f cap I rd) (G : Nat) (T W q T' q' : Int) (k : Nat) (w : World) (hB : B0 ≤ B1) (hk : k < 1000000) (hW : 0 ≤ W ∧ W < 1024) (hT : 0 ≤ T ∧ T ≤ 2199023255551) (hq : 0 ≤ q ∧ q ≤ 4095)
    (hGB : B1 ≤ G) (hG : GAt w G (.func (.func f) #[] cap) (W * 4096) (idOf T W q)) (hI : I w k) (ht : (T < rd k ∧ T' = rd k ∧ q' = 0) ∨ (rd k ≤ T ∧ q < 4095 ∧ idOf T W q ≤ 9223372036854775805 ∧ T' = T ∧ q' = q + 1)) :
    Calls Ybad.prog 8 #[.pointer (some ⟨G, 0, none⟩)] w fun e w' => e = .returned (.tuple #[.int .i64 (idOf T' W q'), .nilIface]) ∧ I w' (k + 1) ∧ Below B0 w w' ∧
      GAt w' G (.func (.func f) #[] cap) (W * 4096) (idOf T' W q') := by
  have hGlt := hG.lt
  have hcl : Calls Ybad.prog 17 #[.pointer (some ⟨G, 0, none⟩), .slice (some ⟨w.heap.size, 0, none⟩) 1 1] (w.alloc (.cells #[.int .i64 0] 54)) fun e w' => e = .returned (.tuple #[.int .i64 1, .nilIface]) ∧ I w' (k + 1) ∧ Below B0 w w' ∧
      GAt w' G (.func (.func f) #[] cap) (W * 4096) (idOf T' W q') ∧ At w' w.heap.size (.cells #[.int .i64 (idOf T' W q')] 54 (0, 0)) := by
    have hb : Below B1 w (w.alloc (.cells #[.int .i64 0] 54)) := (Below.refl _ _).alloc (by omega) _
    have hG1 : GAt (w.alloc (.cells #[.int .i64 0] 54)) G (.func (.func f) #[] cap) (W * 4096) (idOf T W q) := At.alloc hG _
    have hS1 : At (w.alloc (.cells #[.int .i64 0] 54)) w.heap.size (.cells #[.int .i64 0] 54 (0, 0)) := At.new _ _
    rcases ht with ⟨h1, rfl, rfl⟩ | ⟨h1, h2, h3, rfl, rfl⟩
    · exact (claim_next hC G w.heap.size T W q k _ _ hB hk hW hq hGB (by omega) (by omega) hG1 hS1 (hC.keep _ _ _ hb hI) h1).mono fun e w' ⟨a, b, c, d⟩ => ⟨a, b, (hb.mono hB).trans c, d⟩
    · exact (claim_more hC G w.heap.size T' W q k _ _ hB hk hW hT hq hGB (by omega) (by omega) hG1 hS1 (hC.keep _ _ _ hb hI) h1 h2 h3).mono fun e w' ⟨a, b, c, d⟩ => ⟨a, b, (hb.mono hB).trans c, d⟩
  generalize idOf T' W q' = F at *
  have HCL := mkHid hcl
  clear hcl ht hG hI
  go_enter Ybad.func8, Ybad.ntmps8
  go_wp2
  refine wp_loop_rounds 1 ?_
  rw [rounds_succ]
  go_wp2_with fail
  refine HCL.out.mono ?_
  rintro e w1 ⟨rfl, hI1, hb1, hG1, hS1⟩
  have d0 : w1.cell? ⟨w.heap.size, 0, none⟩ = some (.int .i64 F) := (hS1.cell 0).trans rfl
  have H1 : Hid (I w1 (k + 1) ∧ Below B0 w w1 ∧ GAt w1 G (.func (.func f) #[] cap) (W * 4096) F) := ⟨hI1, hb1, hG1⟩
  clear hI1 hb1 hG1 hS1 HCL
  go_wp2
  go_ret2
  exact ⟨rfl, H1.out.1, H1.out.2.1, H1.out.2.2⟩
end

/-- The clock that always reads tt. -/
theorem clock_fixed (B : Nat) (tt : Int) (ht : 0 ≤ tt ∧ tt ≤ 2199023255551) : Clock B (B + 1) 7 #[.pointer (some ⟨B, 0, none⟩)] (fun w _ => At w B (.cells #[.int .i64 tt] 2 (0, 0))) (fun _ => tt) := by
  refine ⟨fun w => ?_, fun w k _ hI => ?_, fun w w' k hb hI => At.below hI hb (by omega), fun _ _ => ht⟩
  · exact enters_of Ybad.func7 (by kernel_rfl) rfl _ w
  · have d0 : w.cell? ⟨B, 0, none⟩ = some (.int .i64 tt) := (hI.cell 0).trans rfl
    have HI : Hid (At w B (.cells #[.int .i64 tt] 2 (0, 0))) := hI
    clear hI
    go_enter Ybad.func7, Ybad.ntmps7
    go_wp2
    go_ret
    exact ⟨rfl, HI.out, Below.refl _ _, rfl, fun _ _ => rfl⟩

set_option maxHeartbeats 2000000 in
set_option maxRecDepth 100000 in
theorem law_fixed (t used : Int) (W k : Nat) (w : World) (hW : W ≤ 65535) (hk : k ≤ 65535) (hG : Glob w) :
    Calls Ybad.prog 3 #[.int .i64 t, .int .u16 W, .int .i64 used, .int .u16 k] w fun e w' => e = .returned (.bool true) ∧ Below w.heap.size w w' := by
  have HG : Hid (Glob w) := hG
  clear hG
  have u0 : 0 ≤ IntKind.u64.wrap t := by rw [IntKind.wrap_u64]; omega
  have u1 : 0 ≤ IntKind.u64.wrap used := by rw [IntKind.wrap_u64]; omega
  obtain ⟨x, hx⟩ : ∃ x, (IntKind.u64.wrap t).tmod 2199023255551 = x := ⟨_, rfl⟩
  have hx0 : 0 ≤ x ∧ x < 2199023255551 := by rw [← hx, Int.tmod_eq_emod_of_nonneg u0]; omega
  obtain ⟨y, hy⟩ : ∃ y, (IntKind.u64.wrap used).tmod (x + 1) = y := ⟨_, rfl⟩
  have hy0 : 0 ≤ y ∧ y < x + 1 := by rw [← hy, Int.tmod_eq_emod_of_nonneg u1]; exact ⟨Int.emod_nonneg _ (by omega), Int.emod_lt_of_pos _ (by omega)⟩
  obtain ⟨V, hV⟩ : ∃ V : Int, (W : Int) % 1024 = V := ⟨_, rfl⟩
  have hV0 : 0 ≤ V ∧ V < 1024 := by omega
  obtain ⟨n, hn⟩ : ∃ n : Nat, (k : Int) % 301 = (n : Int) := ⟨k % 301, by omega⟩
  have hn0 : n ≤ 300 := by omega
  obtain ⟨B, hBs⟩ : ∃ B, B = w.heap.size := ⟨_, rfl⟩
  have HX : Hid (0 ≤ x ∧ x < 2199023255551 ∧ 0 ≤ y ∧ y < x + 1) := ⟨hx0.1, hx0.2, hy0.1, hy0.2⟩
  have HG1 : Hid (Glob (w.alloc (.cells #[.int .i64 (x + 1)] 2))) := HG.out.below ((Below.refl _ _).alloc (Nat.le_refl _) _) HG.out.lt
  go_enter Ybad.func3, Ybad.ntmps3
  go_wp2_with fail
  refine (new_any 7 _ V y _ hV0 ⟨hy0.1, by omega⟩ HG1.out).mono ?_
  rintro e w1 ⟨G, rfl, hGs, hb1, hG1⟩
  have hGs' : w.heap.size + 1 ≤ G := by simpa using hGs
  have hcl := clock_fixed w.heap.size (x + 1) (by omega)
  have HCL : Hid (Clock w.heap.size (w.heap.size + 1) 7 #[.pointer (some ⟨w.heap.size, 0, none⟩)] (fun w' _ => At w' w.heap.size (.cells #[.int .i64 (x + 1)] 2 (0, 0))) (fun _ => x + 1)) := hcl
  have HR : Hid (Below w.heap.size w w1 ∧ At w1 w.heap.size (.cells #[.int .i64 (x + 1)] 2 (0, 0)) ∧ GAt w1 G (.func (.func 7) #[] #[.pointer (some ⟨w.heap.size, 0, none⟩)]) (V * 4096) (idOf y V 4095)) := by
    refine ⟨?_, ?_, hG1⟩
    · exact ((Below.refl _ _).alloc (Nat.le_refl _) _).trans (hb1.mono (by simp))
    · exact At.below (At.new _ _) hb1 (by simp)
  clear hcl hb1 hG1 hGs HG HG1 hBs
  have e2 : bits .or .i64 ((x + 1) * 4194304) (V * 4096) = ((x + 1) * 1024 + V) * 4096 := by
    rw [or_22 (x + 1) (V * 4096) (by omega) (by omega) (by omega) (by omega)]; omega
  go_wp2
  go_loopw [14] (fun i wr => ∃ j : Nat, j ≤ n ∧ i = .int .i64 j ∧ Below w.heap.size w wr ∧ At wr w.heap.size (.cells #[.int .i64 (x + 1)] 2 (0, 0)) ∧ GAt wr G (.func (.func 7) #[] #[.pointer (some ⟨w.heap.size, 0, none⟩)]) (V * 4096) (if j = 0 then idOf y V 4095 else idOf (x + 1) V (j - 1))) (fun i _ => n - (intOf i).toNat)
  case atStart => exact ⟨0, Nat.zero_le _, rfl, HR.out.1, HR.out.2.1, HR.out.2.2⟩
  case round =>
    obtain ⟨j, hj, rfl, hb, hA, hGj⟩ := hrel
    have HB : Hid (Below w.heap.size w wr) := hb
    have HA : Hid (At wr w.heap.size (.cells #[.int .i64 (x + 1)] 2 (0, 0))) := hA
    have HGj : Hid (GAt wr G (.func (.func 7) #[] #[.pointer (some ⟨w.heap.size, 0, none⟩)]) (V * 4096) (if j = 0 then idOf y V 4095 else idOf (x + 1) V (j - 1))) := hGj
    clear hb hA hGj HR
    by_cases hlt : j < n
    · have hlt' : (j : Int) < (n : Int) := by omega
      have hnx : Calls Ybad.prog 8 #[.pointer (some ⟨G, 0, none⟩)] wr fun e w' => e = .returned (.tuple #[.int .i64 (idOf (x + 1) V j), .nilIface]) ∧ At w' w.heap.size (.cells #[.int .i64 (x + 1)] 2 (0, 0)) ∧ Below w.heap.size wr w' ∧
          GAt w' G (.func (.func 7) #[] #[.pointer (some ⟨w.heap.size, 0, none⟩)]) (V * 4096) (idOf (x + 1) V j) := by
        have hg := HGj.out
        by_cases h0 : j = 0
        · subst h0
          exact next_hit HCL.out G y V 4095 (x + 1) 0 0 wr (by omega) (by omega) hV0 (by omega) (by omega) hGs' hg HA.out (.inl ⟨by omega, rfl, rfl⟩)
        · rw [if_neg h0] at hg
          exact next_hit HCL.out G (x + 1) V (j - 1) (x + 1) j 0 wr (by omega) (by omega) hV0 (by omega) (by omega) hGs' hg HA.out (.inr ⟨by omega, by omega, by unfold idOf; omega, rfl, by omega⟩)
      have HNX := mkHid hnx
      clear hnx
      have e3 : bits .or .i64 (((x + 1) * 1024 + V) * 4096) (j : Int) = idOf (x + 1) V j := by
        rw [or_12 _ _ (by omega) (by omega) (by omega) (by omega)]; unfold idOf; omega
      go_wp2_with fail
      refine HNX.out.mono ?_
      rintro e w2 ⟨rfl, hA2, hb2, hG2⟩
      have d0 : w2.cell? ⟨w.heap.size, 0, none⟩ = some (.int .i64 (x + 1)) := (hA2.cell 0).trans rfl
      have HA2 := mkHid hA2
      have HB2 := mkHid hb2
      have HG2 := mkHid hG2
      clear hA2 hb2 hG2 HNX
      go_wp2
      go_roundw
      case rel => exact ⟨j + 1, by omega, by go_num, HB.out.trans HB2.out, HA2.out, by rw [if_neg (by omega)]; simpa using HG2.out⟩
      case measure => simp [intOf]; omega
    · obtain rfl : j = n := by omega
      go_wp2
      go_ret
      exact ⟨rfl, HB.out⟩
end Go.Proofs.YbulkrtkDoor
