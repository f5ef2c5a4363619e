/-
  Seat b0907aD. Wait (function 18) and Next (function 8) under a clock that is past every used time from its K-th reading on.
-/
import Derived.Test.YbulkrtkDoorFixed
namespace Go.Proofs.YbulkrtkDoor
open Go.RowKit

theorem Above.refl (B : Nat) (w : World) : Above B w w := ⟨rfl, fun _ _ => rfl⟩
theorem Above.trans {B : Nat} {w w' w'' : World} (h : Above B w w') (h' : Above B w' w'') : Above B w w'' := ⟨h'.1.trans h.1, fun b hb => (h'.2 b hb).trans (h.2 b hb)⟩
theorem Above.drewN {B : Nat} {w w' : World} (h : Above B w w') (n : Nat) : Above B w (w'.drewN n) := ⟨h.1, h.2⟩

section
variable {B0 B1 : Nat} {f : FuncId} {cap : Array Value} {I : World → Nat → Prop} {rd : Nat → Int} {cnt : World → Nat}

set_option maxHeartbeats 2000000 in
set_option maxRecDepth 100000 in
theorem wait_any (hC : Clock B0 B1 f cap I rd) (hcnt : ∀ w k, I w k → cnt w = k) (G : Nat) (T W : Int) (k K : Nat) (w : World) (hkK : k ≤ K) (hKb : K < 999000) (hW : 0 ≤ W ∧ W < 1024) (hT : 0 ≤ T ∧ T ≤ 2199023255551)
    (hGB : B1 ≤ G) (hG : GAt w G (.func (.func f) #[] cap) (W * 4096) (idOf T W 4095)) (hI : I w k) (hK : ∀ j, K ≤ j → T < rd j) :
    Calls Ybad.prog 18 #[.pointer (some ⟨G, 0, none⟩)] w fun e w' => e = .returned .nilIface ∧ ∃ k', k < k' ∧ k' ≤ K + 2 ∧ I w' k' ∧ Below B0 w w' ∧ Above B1 w w' := by
  have hent := hC.ent
  have HC : Hid (Clock B0 B1 f cap I rd) := hC
  have HCN := mkHid hcnt
  have HG := mkHid hG
  have HI := mkHid hI
  have HK := mkHid hK
  have c71 : w.cell? ⟨G, 71, none⟩ = some (.int .i64 (idOf T W 4095)) := (hG.cell 71).trans rfl
  have c2 : w.cell? ⟨G, 2, none⟩ = some (.int .i64 4095) := (hG.cell 2).trans rfl
  have c3 : w.cell? ⟨G, 3, none⟩ = some (.int .u64 22) := (hG.cell 3).trans rfl
  have c71' := mkHid c71
  have hsh : idOf T W 4095 / 4194304 = T := by unfold idOf; omega
  have hn : 0 ≤ idOf T W 4095 ∧ idOf T W 4095 < 9223372036854775808 := by unfold idOf; omega
  have ha0 := and_4095 (idOf T W 4095) hn.1 (by omega)
  rw [show idOf T W 4095 % 4096 = 4095 by unfold idOf; omega] at ha0
  clear hC hcnt hG hI hK
  go_enter Ybad.func18, Ybad.ntmps18
  go_wp2_with fail
  refine (load_any G 71 (idOf T W 4095) _ c71).mono ?_
  rintro e w1 ⟨rfl, hw⟩
  subst hw
  go_wp2_with fail
  go_quiet (fail)
  go_wp2
  go_loopw [] (fun wr => ∃ m : Nat, k ≤ m ∧ m ≤ K ∧ I wr m ∧ Below B0 w1 wr ∧ Above B1 w1 wr) (fun wr => K - cnt wr)
  case atStart => exact ⟨k, Nat.le_refl _, hkK, HC.out.keep _ _ _ (below_drewN (Below.refl _ _) _) HI.out, below_drewN (Below.refl _ _) _, (Above.refl _ _).drewN _⟩
  case round =>
    obtain ⟨m, hm1, hm2, hIm, hbm, ham⟩ := hrel
    have HIm := mkHid hIm
    have HBm := mkHid hbm
    have HAm := mkHid ham
    have hGm : GAt wr G (.func (.func f) #[] cap) (W * 4096) (idOf T W 4095) := ham.at HG.out hGB
    have b0 : wr.cell? ⟨G, 0, none⟩ = some (.func (.func f) #[] cap) := (hGm.cell 0).trans rfl
    clear hIm hbm ham hGm c71 c2 c3
    go_wp2_with fail
    refine (HC.out.call _ m (by omega) HIm.out).mono ?_
    rintro e w2 ⟨rfl, hI2, hb2, ha2⟩
    have hG2 : GAt w2 G (.func (.func f) #[] cap) (W * 4096) (idOf T W 4095) := ha2.at (HAm.out.at HG.out hGB) hGB
    have b6 : w2.cell? ⟨G, 6, none⟩ = some (.int .i64 0) := (hG2.cell 6).trans rfl
    have b0' : w2.cell? ⟨G, 0, none⟩ = some (.func (.func f) #[] cap) := (hG2.cell 0).trans rfl
    have HI2 := mkHid hI2
    have HB2 := mkHid (HBm.out.trans hb2)
    have HA2 := mkHid (HAm.out.trans ha2)
    have HG2 := mkHid hG2
    by_cases hle : rd m ≤ T
    · have hmK : m < K := by
        rcases Nat.lt_or_ge m K with h | h
        · exact h
        · have := HK.out m h; omega
      have hc1 := HCN.out _ _ HIm.out
      have hc2 := HCN.out _ _ hI2
      have HC1 := mkHid hc1
      have HC2 := mkHid hc2
      clear hI2 hb2 ha2 hG2 hc1 hc2
      go_wp2
      go_roundw
      case rel => exact ⟨m + 1, by omega, by omega, HI2.out, HB2.out, HA2.out⟩
      case measure => rw [HC1.out, HC2.out]; omega
    · have hlt : T < rd m := by omega
      clear hI2 hb2 ha2 hG2
      go_wp2_with fail
      refine (HC.out.call _ (m + 1) (by omega) HI2.out).mono ?_
      rintro e w3 ⟨rfl, hI3, hb3, ha3⟩
      have hG3 : GAt w3 G (.func (.func f) #[] cap) (W * 4096) (idOf T W 4095) := ha3.at HG2.out hGB
      have b5 : w3.cell? ⟨G, 5, none⟩ = some (.pointer none) := (hG3.cell 5).trans rfl
      have hr3 := HC.out.rng (m + 1) (by omega)
      have H3 := mkHid (And.intro hI3 (And.intro (HB2.out.trans hb3) (HA2.out.trans ha3)))
      clear hI3 hb3 ha3 hG3
      go_wp2_with fail
      refine (limit_nil _).mono ?_
      rintro e w4 ⟨rfl, hw⟩
      subst hw
      go_wp2
      go_ret
      exact ⟨rfl, m + 1 + 1, by omega, by omega, H3.out.1, H3.out.2.1, H3.out.2.2⟩

/-- What one Next does to the newest ID's time and sequence number, reading from k to k'. -/
def Steps (rd : Nat → Int) (k k' : Nat) (T q T' q' : Int) : Prop := (T < T' ∧ q' = 0 ∧ ∃ i, k ≤ i ∧ i < k' ∧ T' = rd i) ∨ (T' = T ∧ q' = q + 1 ∧ q < 4095)

set_option maxHeartbeats 2000000 in
set_option maxRecDepth 100000 in
theorem next_any (hC : Clock B0 B1 f cap I rd) (hcnt : ∀ w k, I w k → cnt w = k) (G : Nat) (T W q : Int) (k K : Nat) (w : World) (hB : B0 ≤ B1) (hkb : k < 998000) (hKb : K < 998000) (hW : 0 ≤ W ∧ W < 1024) (hT : 0 ≤ T ∧ T ≤ 2199023255000) (hq : 0 ≤ q ∧ q ≤ 4095)
    (hGB : B1 ≤ G) (hG : GAt w G (.func (.func f) #[] cap) (W * 4096) (idOf T W q)) (hI : I w k) (hK : ∀ j, k ≤ j → K ≤ j → T < rd j) :
    Calls Ybad.prog 8 #[.pointer (some ⟨G, 0, none⟩)] w fun e w' => ∃ T' q' k', e = .returned (.tuple #[.int .i64 (idOf T' W q'), .nilIface]) ∧ k < k' ∧ k' ≤ max k (K + 2) + 1 ∧ Steps rd k k' T q T' q' ∧ I w' k' ∧ Below B0 w w' ∧
      GAt w' G (.func (.func f) #[] cap) (W * 4096) (idOf T' W q') := by
  have hGlt := hG.lt
  have HC : Hid (Clock B0 B1 f cap I rd) := hC
  have HCN := mkHid hcnt
  have HK := mkHid hK
  have P0 := mkHid (show I (w.alloc (.cells #[.int .i64 0] 54)) k ∧ Below B0 w (w.alloc (.cells #[.int .i64 0] 54)) ∧ GAt (w.alloc (.cells #[.int .i64 0] 54)) G (.func (.func f) #[] cap) (W * 4096) (idOf T W q) ∧ At (w.alloc (.cells #[.int .i64 0] 54)) w.heap.size (.cells #[.int .i64 0] 54 (0, 0)) from
    ⟨hC.keep _ _ _ ((Below.refl _ _).alloc (by omega) _) hI, (Below.refl _ _).alloc (by omega) _, At.alloc hG _, At.new _ _⟩)
  clear hC hcnt hG hI hK
  go_enter Ybad.func8, Ybad.ntmps8
  go_wp2
  go_loopw [] (fun wr => ∃ m : Nat, k ≤ m ∧ m ≤ max k (K + 2) ∧ I wr m ∧ Below B0 w wr ∧ GAt wr G (.func (.func f) #[] cap) (W * 4096) (idOf T W q) ∧ At wr w.heap.size (.cells #[.int .i64 0] 54 (0, 0))) (fun wr => max k (K + 2) + 1 - cnt wr)
  case atStart => exact ⟨k, Nat.le_refl _, by omega, P0.out⟩
  case round =>
    obtain ⟨m, hm1, hm2, hIm, hbm, hGm, hSm⟩ := hrel
    have HIm := mkHid hIm
    have HBm := mkHid hbm
    have HGm := mkHid hGm
    have HSm := mkHid hSm
    clear hIm hbm hGm hSm P0
    by_cases hit : T < rd m ∨ q < 4095
    · have hcl : ∃ T' q', Steps rd k (m + 1) T q T' q' ∧ Calls Ybad.prog 17 #[.pointer (some ⟨G, 0, none⟩), .slice (some ⟨w.heap.size, 0, none⟩) 1 1] wr fun e w' => e = .returned (.tuple #[.int .i64 1, .nilIface]) ∧ I w' (m + 1) ∧ Below B0 wr w' ∧
          GAt w' G (.func (.func f) #[] cap) (W * 4096) (idOf T' W q') ∧ At w' w.heap.size (.cells #[.int .i64 (idOf T' W q')] 54 (0, 0)) := by
        by_cases h1 : T < rd m
        · exact ⟨rd m, 0, .inl ⟨h1, rfl, m, hm1, by omega, rfl⟩, claim_next HC.out G w.heap.size T W q m _ _ hB (by omega) hW hq hGB (by omega) (by omega) HGm.out HSm.out HIm.out h1⟩
        · exact ⟨T, q + 1, .inr ⟨rfl, rfl, by omega⟩, claim_more HC.out G w.heap.size T W q m _ _ hB (by omega) hW (by omega) hq hGB (by omega) (by omega) HGm.out HSm.out HIm.out (by omega) (by omega) (by unfold idOf; omega)⟩
      obtain ⟨T', q', hst, hcl⟩ := hcl
      have HST := mkHid hst
      have HCL := mkHid hcl
      clear hst hcl hit
      generalize hF : idOf T' W q' = F
      rw [hF] at HCL
      have HF := mkHid hF
      clear hF
      go_wp2_with fail
      refine HCL.out.mono ?_
      rintro e w1 ⟨rfl, hI1, hb1, hG1, hS1⟩
      have d0 : w1.cell? ⟨w.heap.size, 0, none⟩ = some (.int .i64 F) := (hS1.cell 0).trans rfl
      have H1 := mkHid (And.intro hI1 (And.intro (HBm.out.trans hb1) hG1))
      clear hI1 hb1 hG1 hS1 HCL
      go_wp2
      go_ret2
      exact ⟨T', q', m + 1, by rw [HF.out]; rfl, by omega, by omega, HST.out, H1.out.1, H1.out.2.1, by rw [HF.out]; exact H1.out.2.2⟩
    · have hq4 : q = 4095 := by omega
      have hle : rd m ≤ T := by omega
      have hmK : m < K := by
        rcases Nat.lt_or_ge m K with h | h
        · exact h
        · have := HK.out m hm1 h; omega
      have hcl : Calls Ybad.prog 17 #[.pointer (some ⟨G, 0, none⟩), .slice (some ⟨w.heap.size, 0, none⟩) 1 1] wr fun e w' => e = .returned (.tuple #[.int .i64 0, .nilIface]) ∧ I w' (m + 1) ∧ Below B0 wr w' ∧
          GAt w' G (.func (.func f) #[] cap) (W * 4096) (idOf T W 4095) ∧ At w' w.heap.size (.cells #[.int .i64 0] 54 (0, 0)) := by
        have hg := HGm.out
        rw [hq4] at hg
        exact claim_none HC.out G w.heap.size T W m _ _ (by omega) hW (by omega) hGB (by omega) hg HSm.out HIm.out hle
      have HCL := mkHid hcl
      have HQ4 := mkHid hq4
      clear hcl hit hq4
      go_wp2_with fail
      refine HCL.out.mono ?_
      rintro e w1 ⟨rfl, hI1, hb1, hG1, hS1⟩
      have H1 := mkHid (And.intro hI1 (And.intro (HBm.out.trans hb1) (And.intro hG1 hS1)))
      clear hI1 hb1 hG1 hS1 HCL
      go_wp2_with fail
      refine (wait_any HC.out HCN.out G T W (m + 1) K _ (by omega) (by omega) hW (by omega) hGB H1.out.2.2.1 H1.out.1 (fun j hj => HK.out j (by omega) hj)).mono ?_
      rintro e w2 ⟨rfl, k2, hk1, hk2, hI2, hb2, ha2⟩
      have H2 := mkHid (And.intro hI2 (And.intro (H1.out.2.1.trans hb2) (And.intro (ha2.at H1.out.2.2.1 hGB) (ha2.at H1.out.2.2.2 (by omega)))))
      have HC1 := mkHid (HCN.out _ _ HIm.out)
      have HC2 := mkHid (HCN.out _ _ hI2)
      clear hI2 hb2 ha2
      go_wp2
      go_roundw
      case rel => exact ⟨k2, by omega, by omega, H2.out.1, H2.out.2.1, by rw [HQ4.out]; exact H2.out.2.2.1, H2.out.2.2.2⟩
      case measure => rw [HC1.out, HC2.out]; omega
end
end Go.Proofs.YbulkrtkDoor
