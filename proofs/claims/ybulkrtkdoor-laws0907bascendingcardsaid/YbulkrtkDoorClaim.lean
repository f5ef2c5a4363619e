/-
  Seat b0907aD. claim (function 17), whatever the clock.
-/
import Derived.Test.YbulkrtkDoorNew
namespace Go.Proofs.YbulkrtkDoor
open Go.RowKit

/-- No block from B on has turned; none is new. -/
def Above (B : Nat) (w w' : World) : Prop := w'.heap.size = w.heap.size ∧ ∀ b, B ≤ b → w'.heap[b]? = w.heap[b]?
theorem Above.at {B : Nat} {w w' : World} (h : Above B w w') {b : Nat} {o : Obj} (hb : At w b o) (hB : B ≤ b) : At w' b o := (h.2 b hB).trans hb

/-- A clock: the closure f over cap; I: where it stands; rd: what it reads. It writes at most the blocks from B0 to B1. -/
structure Clock (B0 B1 : Nat) (f : FuncId) (cap : Array Value) (I : World → Nat → Prop) (rd : Nat → Int) : Prop where
  ent : ∀ w, (callFunc f cap).run Ybad.prog w = .ok (.enter f cap) w
  call : ∀ w k, k < 1000000 → I w k → Calls Ybad.prog f cap w fun e w' => e = .returned (.int .i64 (rd k)) ∧ I w' (k + 1) ∧ Below B0 w w' ∧ Above B1 w w'
  keep : ∀ w w' k, Below B1 w w' → I w k → I w' k
  rng : ∀ k, k < 1000000 → 0 ≤ rd k ∧ rd k ≤ 2199023255551

theorem At.drewN {w : World} {b : Nat} {o : Obj} (h : At w b o) (n : Nat) : At (w.drewN n) b o := h

/-- The ID of time T, worker W, sequence number q. -/
def idOf (T W q : Int) : Int := T * 4194304 + W * 4096 + q

section
variable {B0 B1 : Nat} {f : FuncId} {cap : Array Value} {I : World → Nat → Prop} {rd : Nat → Int}

set_option maxHeartbeats 2000000 in
set_option maxRecDepth 100000 in
theorem claim_next (hC : Clock B0 B1 f cap I rd) (G S : Nat) (T W q : Int) (k : Nat) (s0 : Value) (w : World) (hB : B0 ≤ B1) (hk : k < 1000000) (hW : 0 ≤ W ∧ W < 1024) (hq : 0 ≤ q ∧ q ≤ 4095)
    (hGB : B1 ≤ G) (hSB : B1 ≤ S) (hne : G ≠ S) (hG : GAt w G (.func (.func f) #[] cap) (W * 4096) (idOf T W q)) (hS : At w S (.cells #[s0] 54 (0, 0))) (hI : I w k) (ht : T < rd k) :
    Calls Ybad.prog 17 #[.pointer (some ⟨G, 0, none⟩), .slice (some ⟨S, 0, none⟩) 1 1] w fun e w' => e = .returned (.tuple #[.int .i64 1, .nilIface]) ∧ I w' (k + 1) ∧ Below B0 w w' ∧
      GAt w' G (.func (.func f) #[] cap) (W * 4096) (idOf (rd k) W 0) ∧ At w' S (.cells #[.int .i64 (idOf (rd k) W 0)] 54 (0, 0)) := by
  have c5 : w.cell? ⟨G, 5, none⟩ = some (.pointer none) := (hG.cell 5).trans rfl
  have c0 : w.cell? ⟨G, 0, none⟩ = some (.func (.func f) #[] cap) := (hG.cell 0).trans rfl
  have hent := hC.ent
  have HC : Hid (Clock B0 B1 f cap I rd) := hC
  clear hC
  have HG : Hid (GAt w G (.func (.func f) #[] cap) (W * 4096) (idOf T W q)) := hG
  have HS : Hid (At w S (.cells #[s0] 54 (0, 0))) := hS
  have HI : Hid (I w k) := hI
  clear hG hS hI
  go_enter Ybad.func17, Ybad.ntmps17
  go_wp2
  refine wp_loop_rounds 1 ?_
  rw [rounds_succ]
  go_wp2_with fail
  refine (limit_nil _).mono ?_
  rintro e w0 ⟨rfl, hw⟩
  subst hw
  go_wp2_with fail
  refine (HC.out.call _ k hk HI.out).mono ?_
  rintro e w1 ⟨rfl, hI1, hb1, hab⟩
  have hG1 : GAt w1 G (.func (.func f) #[] cap) (W * 4096) (idOf T W q) := hab.at HG.out hGB
  have hS1 : At w1 S (.cells #[s0] 54 (0, 0)) := hab.at HS.out hSB
  have hr := HC.out.rng k hk
  obtain ⟨t, htt⟩ : ∃ t, rd k = t := ⟨_, rfl⟩
  rw [htt] at hr ht ⊢
  have HTT : Hid (rd k = t) := htt
  clear htt
  have c1 : w1.cell? ⟨G, 1, none⟩ = some (.int .i64 2199023255551) := (hG1.cell 1).trans rfl
  have c2 : w1.cell? ⟨G, 2, none⟩ = some (.int .i64 4095) := (hG1.cell 2).trans rfl
  have c3 : w1.cell? ⟨G, 3, none⟩ = some (.int .u64 22) := (hG1.cell 3).trans rfl
  have c4 : w1.cell? ⟨G, 4, none⟩ = some (.int .i64 (W * 4096)) := (hG1.cell 4).trans rfl
  have c5' : w1.cell? ⟨G, 5, none⟩ = some (.pointer none) := (hG1.cell 5).trans rfl
  have c71 : w1.cell? ⟨G, 71, none⟩ = some (.int .i64 (idOf T W q)) := (hG1.cell 71).trans rfl
  have f71 : w1.frozen? ⟨G, 71, none⟩ = false := hG1.free 71
  have d0 : w1.cell? ⟨S, 0, none⟩ = some s0 := (hS1.cell 0).trans rfl
  have g0 : w1.frozen? ⟨S, 0, none⟩ = false := hS1.free 0
  have HG1 : Hid (GAt w1 G (.func (.func f) #[] cap) (W * 4096) (idOf T W q)) := hG1
  have HS1 : Hid (At w1 S (.cells #[s0] 54 (0, 0))) := hS1
  have HI1 : Hid (I w1 (k + 1)) := hI1
  have HB1 : Hid (Below B0 w0 w1) := hb1
  clear hG1 hS1 hI1 hb1 hab HG HS HI c5 c0
  go_wp2_with fail
  refine (load_any G 71 (idOf T W q) _ c71).mono ?_
  rintro e w2 ⟨rfl, hw⟩
  subst hw
  have hsh : idOf T W q / 4194304 = T := by unfold idOf; omega
  go_wp2_with fail
  go_quiet (fail)
  have e2 : bits .or .i64 (t * 4194304) (W * 4096) = idOf t W 0 := by unfold idOf; rw [or_22 t (W * 4096) (by omega) (by omega) (by omega) (by omega)]; omega
  rw [e2]
  have hF : 0 ≤ idOf t W 0 ∧ idOf t W 0 < 9223372036854775800 ∧ idOf t W 0 % 4096 = 0 := by unfold idOf; omega
  generalize hFF : idOf t W 0 = F at *
  have HFF : Hid (idOf t W 0 = F) := hFF
  clear hFF e2
  have hand := and_4095 F (by omega) (by omega)
  rw [hF.2.2] at hand
  go_wp2_with fail
  go_quiet (fail)
  go_wp2_with fail
  refine (cas_any G 71 (idOf T W q) F _ ?_ ?_).mono ?_
  · exact c71
  · exact f71
  rintro e w3 ⟨rfl, hw⟩
  have hG3 : GAt w3 G (.func (.func f) #[] cap) (W * 4096) F := by rw [hw]; exact At.set (At.drewN HG1.out _) 71 _
  have hS3 : At w3 S (.cells #[s0] 54 (0, 0)) := by rw [hw]; exact At.other (At.drewN HS1.out _) _ _ (Ne.symm hne)
  have hB3 : Below B1 w2 w3 := by rw [hw]; exact ((below_drewN (Below.refl _ _) _).setCell hGB _)
  have HG3 : Hid (GAt w3 G (.func (.func f) #[] cap) (W * 4096) F) := hG3
  have HS3 : Hid (At w3 S (.cells #[s0] 54 (0, 0))) := hS3
  have HB3 : Hid (Below B1 w2 w3) := hB3
  have HI3 : Hid (I w3 (k + 1)) := HC.out.keep _ _ _ hB3 HI1.out
  have HBB : Hid (Below B0 w0 w3) := HB1.out.trans (hB3.mono hB)
  have c5 : w3.cell? ⟨G, 5, none⟩ = some (.pointer none) := (hG3.cell 5).trans rfl
  have d0' : w3.cell? ⟨S, 0, none⟩ = some s0 := (hS3.cell 0).trans rfl
  have g0' : w3.frozen? ⟨S, 0, none⟩ = false := hS3.free 0
  clear hw hG3 hS3 hB3 c1 c2 c3 c4 c5' c71 f71 d0 g0 HG1 HS1 HI1 HB1
  go_wp2_with fail
  refine (limit_nil _).mono ?_
  rintro e w4 ⟨rfl, hw⟩
  subst hw
  go_wp2
  refine wp_loop_rounds 2 ?_
  rw [rounds_succ]
  go_wp2
  rw [rounds_succ]
  go_wp2
  go_ret2
  have hb5 : Below B1 w4 (w4.setCell ⟨S, 0, none⟩ (.int .i64 F)) := (Below.refl _ _).setCell hSB _
  refine ⟨rfl, HC.out.keep _ _ _ hb5 HI3.out, HBB.out.trans (hb5.mono hB), ?_, ?_⟩
  · rw [HTT.out, HFF.out]; exact At.other HG3.out _ _ hne
  · rw [HTT.out, HFF.out]; exact At.set HS3.out 0 _
set_option maxHeartbeats 2000000 in
set_option maxRecDepth 100000 in
theorem claim_more (hC : Clock B0 B1 f cap I rd) (G S : Nat) (T W q : Int) (k : Nat) (s0 : Value) (w : World) (hB : B0 ≤ B1) (hk : k < 1000000) (hW : 0 ≤ W ∧ W < 1024) (hT : 0 ≤ T ∧ T ≤ 2199023255551) (hq : 0 ≤ q ∧ q ≤ 4095)
    (hGB : B1 ≤ G) (hSB : B1 ≤ S) (hne : G ≠ S) (hG : GAt w G (.func (.func f) #[] cap) (W * 4096) (idOf T W q)) (hS : At w S (.cells #[s0] 54 (0, 0))) (hI : I w k) (ht : rd k ≤ T) (hq4 : q < 4095) (hov : idOf T W q ≤ 9223372036854775805) :
    Calls Ybad.prog 17 #[.pointer (some ⟨G, 0, none⟩), .slice (some ⟨S, 0, none⟩) 1 1] w fun e w' => e = .returned (.tuple #[.int .i64 1, .nilIface]) ∧ I w' (k + 1) ∧ Below B0 w w' ∧
      GAt w' G (.func (.func f) #[] cap) (W * 4096) (idOf T W (q + 1)) ∧ At w' S (.cells #[.int .i64 (idOf T W (q + 1))] 54 (0, 0)) := by
  have c5 : w.cell? ⟨G, 5, none⟩ = some (.pointer none) := (hG.cell 5).trans rfl
  have c0 : w.cell? ⟨G, 0, none⟩ = some (.func (.func f) #[] cap) := (hG.cell 0).trans rfl
  have hent := hC.ent
  have HC : Hid (Clock B0 B1 f cap I rd) := hC
  clear hC
  have HG : Hid (GAt w G (.func (.func f) #[] cap) (W * 4096) (idOf T W q)) := hG
  have HS : Hid (At w S (.cells #[s0] 54 (0, 0))) := hS
  have HI : Hid (I w k) := hI
  clear hG hS hI
  go_enter Ybad.func17, Ybad.ntmps17
  go_wp2
  refine wp_loop_rounds 1 ?_
  rw [rounds_succ]
  go_wp2_with fail
  refine (limit_nil _).mono ?_
  rintro e w0 ⟨rfl, hw⟩
  subst hw
  go_wp2_with fail
  refine (HC.out.call _ k hk HI.out).mono ?_
  rintro e w1 ⟨rfl, hI1, hb1, hab⟩
  have hG1 : GAt w1 G (.func (.func f) #[] cap) (W * 4096) (idOf T W q) := hab.at HG.out hGB
  have hS1 : At w1 S (.cells #[s0] 54 (0, 0)) := hab.at HS.out hSB
  have hr := HC.out.rng k hk
  obtain ⟨t, htt⟩ : ∃ t, rd k = t := ⟨_, rfl⟩
  rw [htt] at hr ht ⊢
  have HTT : Hid (rd k = t) := htt
  clear htt
  have c1 : w1.cell? ⟨G, 1, none⟩ = some (.int .i64 2199023255551) := (hG1.cell 1).trans rfl
  have c2 : w1.cell? ⟨G, 2, none⟩ = some (.int .i64 4095) := (hG1.cell 2).trans rfl
  have c3 : w1.cell? ⟨G, 3, none⟩ = some (.int .u64 22) := (hG1.cell 3).trans rfl
  have c4 : w1.cell? ⟨G, 4, none⟩ = some (.int .i64 (W * 4096)) := (hG1.cell 4).trans rfl
  have c5' : w1.cell? ⟨G, 5, none⟩ = some (.pointer none) := (hG1.cell 5).trans rfl
  have c71 : w1.cell? ⟨G, 71, none⟩ = some (.int .i64 (idOf T W q)) := (hG1.cell 71).trans rfl
  have f71 : w1.frozen? ⟨G, 71, none⟩ = false := hG1.free 71
  have d0 : w1.cell? ⟨S, 0, none⟩ = some s0 := (hS1.cell 0).trans rfl
  have g0 : w1.frozen? ⟨S, 0, none⟩ = false := hS1.free 0
  have HG1 : Hid (GAt w1 G (.func (.func f) #[] cap) (W * 4096) (idOf T W q)) := hG1
  have HS1 : Hid (At w1 S (.cells #[s0] 54 (0, 0))) := hS1
  have HI1 : Hid (I w1 (k + 1)) := hI1
  have HB1 : Hid (Below B0 w0 w1) := hb1
  clear hG1 hS1 hI1 hb1 hab HG HS HI c5 c0
  go_wp2_with fail
  refine (load_any G 71 (idOf T W q) _ c71).mono ?_
  rintro e w2 ⟨rfl, hw⟩
  subst hw
  have hsh : idOf T W q / 4194304 = T := by unfold idOf; omega
  have hn : 0 ≤ idOf T W q ∧ idOf T W q < 9223372036854775808 := by unfold idOf; omega
  have ha0 := and_4095 (idOf T W q) hn.1 (by omega)
  rw [show idOf T W q % 4096 = q by unfold idOf; omega] at ha0
  go_wp2_with fail
  go_quiet (fail)
  go_wp2_with fail
  have e2 : idOf T W q + 1 = idOf T W (q + 1) := by unfold idOf; omega
  rw [e2]
  have hF : 0 ≤ idOf T W (q + 1) ∧ idOf T W (q + 1) < 9223372036854775807 ∧ idOf T W (q + 1) % 4096 = q + 1 := by unfold idOf at hov ⊢; omega
  generalize hFF : idOf T W (q + 1) = F at *
  have HFF : Hid (idOf T W (q + 1) = F) := hFF
  clear hFF e2
  have hand := and_4095 F (by omega) (by omega)
  rw [hF.2.2] at hand
  go_quiet (fail)
  go_wp2_with fail
  refine (cas_any G 71 (idOf T W q) F _ ?_ ?_).mono ?_
  · exact c71
  · exact f71
  rintro e w3 ⟨rfl, hw⟩
  have hG3 : GAt w3 G (.func (.func f) #[] cap) (W * 4096) F := by rw [hw]; exact At.set (At.drewN HG1.out _) 71 _
  have hS3 : At w3 S (.cells #[s0] 54 (0, 0)) := by rw [hw]; exact At.other (At.drewN HS1.out _) _ _ (Ne.symm hne)
  have hB3 : Below B1 w2 w3 := by rw [hw]; exact ((below_drewN (Below.refl _ _) _).setCell hGB _)
  have HG3 : Hid (GAt w3 G (.func (.func f) #[] cap) (W * 4096) F) := hG3
  have HS3 : Hid (At w3 S (.cells #[s0] 54 (0, 0))) := hS3
  have HB3 : Hid (Below B1 w2 w3) := hB3
  have HI3 : Hid (I w3 (k + 1)) := HC.out.keep _ _ _ hB3 HI1.out
  have HBB : Hid (Below B0 w0 w3) := HB1.out.trans (hB3.mono hB)
  have c5 : w3.cell? ⟨G, 5, none⟩ = some (.pointer none) := (hG3.cell 5).trans rfl
  have d0' : w3.cell? ⟨S, 0, none⟩ = some s0 := (hS3.cell 0).trans rfl
  have g0' : w3.frozen? ⟨S, 0, none⟩ = false := hS3.free 0
  clear hw hG3 hS3 hB3 c1 c2 c3 c4 c5' c71 f71 d0 g0 HG1 HS1 HI1 HB1
  go_wp2_with fail
  refine (limit_nil _).mono ?_
  rintro e w4 ⟨rfl, hw⟩
  subst hw
  go_wp2
  refine wp_loop_rounds 2 ?_
  rw [rounds_succ]
  go_wp2
  rw [rounds_succ]
  go_wp2
  go_ret2
  have hb5 : Below B1 w4 (w4.setCell ⟨S, 0, none⟩ (.int .i64 F)) := (Below.refl _ _).setCell hSB _
  refine ⟨rfl, HC.out.keep _ _ _ hb5 HI3.out, HBB.out.trans (hb5.mono hB), ?_, ?_⟩
  · rw [HFF.out]; exact At.other HG3.out _ _ hne
  · rw [HFF.out]; exact At.set HS3.out 0 _
set_option maxHeartbeats 2000000 in
set_option maxRecDepth 100000 in
theorem claim_none (hC : Clock B0 B1 f cap I rd) (G S : Nat) (T W : Int) (k : Nat) (s0 : Value) (w : World) (hk : k < 1000000) (hW : 0 ≤ W ∧ W < 1024) (hT : 0 ≤ T ∧ T ≤ 2199023255551) 
    (hGB : B1 ≤ G) (hSB : B1 ≤ S) (hG : GAt w G (.func (.func f) #[] cap) (W * 4096) (idOf T W 4095)) (hS : At w S (.cells #[s0] 54 (0, 0))) (hI : I w k) (ht : rd k ≤ T) :
    Calls Ybad.prog 17 #[.pointer (some ⟨G, 0, none⟩), .slice (some ⟨S, 0, none⟩) 1 1] w fun e w' => e = .returned (.tuple #[.int .i64 0, .nilIface]) ∧ I w' (k + 1) ∧ Below B0 w w' ∧
      GAt w' G (.func (.func f) #[] cap) (W * 4096) (idOf T W 4095) ∧ At w' S (.cells #[s0] 54 (0, 0)) := by
  have c5 : w.cell? ⟨G, 5, none⟩ = some (.pointer none) := (hG.cell 5).trans rfl
  have c0 : w.cell? ⟨G, 0, none⟩ = some (.func (.func f) #[] cap) := (hG.cell 0).trans rfl
  have hent := hC.ent
  have HC : Hid (Clock B0 B1 f cap I rd) := hC
  clear hC
  have HG : Hid (GAt w G (.func (.func f) #[] cap) (W * 4096) (idOf T W 4095)) := hG
  have HS : Hid (At w S (.cells #[s0] 54 (0, 0))) := hS
  have HI : Hid (I w k) := hI
  clear hG hS hI
  go_enter Ybad.func17, Ybad.ntmps17
  go_wp2
  refine wp_loop_rounds 1 ?_
  rw [rounds_succ]
  go_wp2_with fail
  refine (limit_nil _).mono ?_
  rintro e w0 ⟨rfl, hw⟩
  subst hw
  go_wp2_with fail
  refine (HC.out.call _ k hk HI.out).mono ?_
  rintro e w1 ⟨rfl, hI1, hb1, hab⟩
  have hG1 : GAt w1 G (.func (.func f) #[] cap) (W * 4096) (idOf T W 4095) := hab.at HG.out hGB
  have hS1 : At w1 S (.cells #[s0] 54 (0, 0)) := hab.at HS.out hSB
  have hr := HC.out.rng k hk
  obtain ⟨t, htt⟩ : ∃ t, rd k = t := ⟨_, rfl⟩
  rw [htt] at hr ht ⊢
  have HTT : Hid (rd k = t) := htt
  clear htt
  have c1 : w1.cell? ⟨G, 1, none⟩ = some (.int .i64 2199023255551) := (hG1.cell 1).trans rfl
  have c2 : w1.cell? ⟨G, 2, none⟩ = some (.int .i64 4095) := (hG1.cell 2).trans rfl
  have c3 : w1.cell? ⟨G, 3, none⟩ = some (.int .u64 22) := (hG1.cell 3).trans rfl
  have c4 : w1.cell? ⟨G, 4, none⟩ = some (.int .i64 (W * 4096)) := (hG1.cell 4).trans rfl
  have c5' : w1.cell? ⟨G, 5, none⟩ = some (.pointer none) := (hG1.cell 5).trans rfl
  have c71 : w1.cell? ⟨G, 71, none⟩ = some (.int .i64 (idOf T W 4095)) := (hG1.cell 71).trans rfl
  have f71 : w1.frozen? ⟨G, 71, none⟩ = false := hG1.free 71
  have d0 : w1.cell? ⟨S, 0, none⟩ = some s0 := (hS1.cell 0).trans rfl
  have g0 : w1.frozen? ⟨S, 0, none⟩ = false := hS1.free 0
  have HG1 : Hid (GAt w1 G (.func (.func f) #[] cap) (W * 4096) (idOf T W 4095)) := hG1
  have HS1 : Hid (At w1 S (.cells #[s0] 54 (0, 0))) := hS1
  have HI1 : Hid (I w1 (k + 1)) := hI1
  have HB1 : Hid (Below B0 w0 w1) := hb1
  clear hG1 hS1 hI1 hb1 hab HG HS HI c5 c0
  go_wp2_with fail
  refine (load_any G 71 (idOf T W 4095) _ c71).mono ?_
  rintro e w2 ⟨rfl, hw⟩
  subst hw
  have hsh : idOf T W 4095 / 4194304 = T := by unfold idOf; omega
  have hn : 0 ≤ idOf T W 4095 ∧ idOf T W 4095 < 9223372036854775808 := by unfold idOf; omega
  have ha0 := and_4095 (idOf T W 4095) hn.1 (by omega)
  rw [show idOf T W 4095 % 4096 = 4095 by unfold idOf; omega] at ha0
  go_wp2_with fail
  go_quiet (fail)
  go_wp2
  go_ret2
  exact ⟨rfl, HC.out.keep _ _ _ (below_drewN (Below.refl _ _) _) HI1.out, below_drewN HB1.out _, HG1.out, HS1.out⟩
end
end Go.Proofs.YbulkrtkDoor
