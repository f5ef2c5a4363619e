/-
  Seat b0905a. THE WALK OF LawS0905CMatchesPaths (function 5): its head; the tails lie in the texts T5 to T17.
-/
import Derived.Test.YbulkrsiT5
namespace Go.Proofs.Ybulkrsi
open Go.RowKit

set_option maxHeartbeats 8000000 in
set_option maxRecDepth 100000 in
theorem law_any (n : Nat) (la ca : Option Addr) (ll lc cl cc : Nat) (flip : Bool) (f0 f1 f : Nat → Nat) (w : World) (hn : n ≤ 255) (hll : ll ≤ 1024) (hcl : cl ≤ 1024) (hL : InL w w.heap.size la ll f0 f1) (hC : InB w w.heap.size ca cl f) :
    Calls Yba.prog 5 #[.int .u8 n, .slice la ll lc, .slice ca cl cc, .bool flip] w (Fin w) := by
  have h1' : ¬ (1024 : Int) < (ll : Int) := by omega
  have h2' : ¬ (1024 : Int) < (cl : Int) := by omega
  have hm1 := run_madeN n hn
  have hm2 := run_madeP n hn
  have HL := mkHid hL
  have HC := mkHid hC
  clear hL hC
  go_enter Yba.func5, Yba.ntmps5
  go_upto_region 4 with fail
  go_cut [10] (fun gp wx => gp = .pointer (some ⟨w.heap.size + 2, 0, none⟩) ∧ ∃ A O, S1 w n A O 0 wx)
  case first =>
    go_region
    all_goals (go_wp2_with fail; go_meet)
    · case rel => exact ⟨rfl, _, _, (S1.ab w n hn).drew⟩
    · case rel => exact ⟨rfl, _, _, (S1.ba w n hn).drew⟩
  case rest =>
    obtain ⟨rfl, A, O, hS1⟩ := hcut
    have P0 := mkHid hS1
    clear hS1 hm1 hm2
    go_upto_region 5 with fail
    rename_i K5 h5 K1 h1
    have H5 := mkHid h5
    clear h5
    go_wp2
    go_loopw [11] (fun i wr => ∃ k : Nat, k ≤ n ∧ i = .int .i64 k ∧ S1 w n A O k wr) (fun i _ => n - (intOf i).toNat)
    case atStart => exact ⟨0, Nat.zero_le _, rfl, P0.out⟩
    case round =>
      obtain ⟨k, hk, rfl, hS⟩ := hrel
      clear P0
      have hg0 : wr.cell? ⟨w.heap.size + 2, 0, none⟩ = some (.slice (some ⟨A, 0, none⟩) n n) := (hS.gat.cell 0).trans rfl
      by_cases hlt : k < n
      · have hlt' : (k : Int) < (n : Int) := by omega
        have hix := run_index31 A n n k hlt
        have HT := mkHid (hS.nb.there k hlt)
        have HS := mkHid (hS.lay hlt)
        clear hS
        go_wp2_with (refine wpList_store_mid rfl 40 (.tmp 68) (.tmp 67) rfl A (k * 4) _ rfl rfl ?_ ?_ ?_ ?_)
        · exact HT.out
        · exact Yba.size40
        · simp [Value.oneCell']
        go_roundw
        case rel => exact ⟨k + 1, by omega, by go_num, HS.out⟩
        case measure => simp [intOf]; omega
      · obtain rfl : n = k := by omega
        have HS := mkHid hS
        clear hS hg0
        go_wp2
        refine H5.out _ _ ?_
        exact t5 hn hll hcl HL.out HC.out HS.out
end Go.Proofs.Ybulkrsi
