/-
  Seat b0905a. The law's links.
-/
import Derived.Test.YbulkrsiT7
namespace Go.Proofs.Ybulkrsi
open Go.RowKit

set_option maxHeartbeats 8000000 in
set_option maxRecDepth 1000000 in
theorem t5 {n A O ll lc cl cc : Nat} {flip : Bool} {la ca : Option Addr} {f0 f1 f : Nat → Nat} {w wr : World} {u0 u4 u5 u6 u7 u8 u11 u12 u13 u14 u15 u16 u17 u18 u19 u20 u21 u22 u23 u24 u25 u26 u27 u28 u29 u30 u31 u32 u33 u34 u35 u36 u37 u38 u39 u40 u41 u42 u43 u44 u45 u46 u47 u48 u49 u50 u51 u52 u53 u54 u55 u56 u57 u58 u59 u60 u61 u62 u63 u64 u65 u66 u67 u68 u69 u70 u71 u72 u73 u74 u75 u76 u77 u78 u79 u80 u81 u82 u83 u84 u85 u86 u87 u88 u89 u90 u91 u92 u93 u94 u95 u96 u97 u98 u99 u100 u101 u102 u103 u104 u105 u106 u107 u108 u109 u110 u111 u112 u113 u114 u115 u116 u117 u118 u119 u120 u121 u122 u123 u124 u125 u126 u127 u128 u129 u130 u131 u132 u133 u134 u135 u136 u137 u138 u139 u140 u141 u142 u143 u144 u145 u146 u147 u148 u149 u150 u151 u152 u153 u154 u155 u156 u157 u158 u159 u160 u161 u162 u163 u164 u165 u166 u167 u168 u169 u170 u171 u172 u173 u174 u175 u176 u177 u178 u179 u180 u181 u182 u183 u184 u185 u186 u187 u188 u189 u190 u191 u192 u193 u194 u195 u196 u197 u198 u199 u200 u201 u202 u203 u204 u205 u206 u207 u208 u209 u210 u211 u212 u213 u214 u215 u216 u217 u218 u219 u220 u221 u222 u223 u224 u225 u226 u227 u228 u229 u230 u231 u232 u233 u234 u235 u236 u237 u238 u239 u240 u241 u242 u243 u244 u245 u246 u247 u248 u249 u250 u251 u252 u253 u254 u255 u256 u257 u258 u259 u260 u261 u262 u263 u264 u265 u266 u267 u268 u269 u270 u271 u272 u273 u274 u275 u276 u277 u278 u279 u280 u281 u282 u283 u284 u285 u286 u287 u288 u289 u290 u291 u292 u293 u294 u295 u296 u297 u298 u299 u300 u301 u302 u303 u304 u305 u306 u307 u308 u309 u310 u311 u312 u313 u314 u315 u316 u317 u318 u319 u320 u321 u322 u323 u324 u325 u326 u327 u328 u329 u330 u331 u332 u333 u334 u335 u336 u337 u338 u339 u340 u341 u342 u343 u344 u345 u346 u347 u348 u349 u350 u351 u352 u353 u354 u355 u356 u357 u358 u359 u360 u361 u362 u363 u364 u365 u366 u367 u368 u369 u370 : Value}
    (hn : n ≤ 255) (hll : ll ≤ 1024) (hcl : cl ≤ 1024) (hL : InL w w.heap.size la ll f0 f1) (hC : InB w w.heap.size ca cl f) (hS : S1 w n A O n wr) :
    Code.wp Yba.prog (tl 5) (bodyPost Yba.prog Yba.f5 (Fin w)) ⟨#[u0, .slice la ll lc, .slice ca cl cc, .bool flip, u4, u5, u6, u7, u8, .int .i64 n, .pointer (some ⟨w.heap.size + 2, 0, none⟩), u11, u12, u13, u14, u15, u16, u17, u18, u19, u20, u21, u22, u23, u24, u25, u26, u27, u28, u29, u30, u31, u32, u33, u34, u35, u36, u37, u38, u39, u40, u41, u42, u43, u44, u45, u46, u47, u48, u49, u50, u51, u52, u53, u54, u55, u56, u57, u58, u59, u60, u61, u62, u63, u64, u65, u66, u67, u68, u69, u70, u71, u72, u73, u74, u75, u76, u77, u78, u79, u80, u81, u82, u83, u84, u85, u86, u87, u88, u89, u90, u91, u92, u93, u94, u95, u96, u97, u98, u99, u100, u101, u102, u103, u104, u105, u106, u107, u108, u109, u110, u111, u112, u113, u114, u115, u116, u117, u118, u119, u120, u121, u122, u123, u124, u125, u126, u127, u128, u129, u130, u131, u132, u133, u134, u135, u136, u137, u138, u139, u140, u141, u142, u143, u144, u145, u146, u147, u148, u149, u150, u151, u152, u153, u154, u155, u156, u157, u158, u159, u160, u161, u162, u163, u164, u165, u166, u167, u168, u169, u170, u171, u172, u173, u174, u175, u176, u177, u178, u179, u180, u181, u182, u183, u184, u185, u186, u187, u188, u189, u190, u191, u192, u193, u194, u195, u196, u197, u198, u199, u200, u201, u202, u203, u204, u205, u206, u207, u208, u209, u210, u211, u212, u213, u214, u215, u216, u217, u218, u219, u220, u221, u222, u223, u224, u225, u226, u227, u228, u229, u230, u231, u232, u233, u234, u235, u236, u237, u238, u239, u240, u241, u242, u243, u244, u245, u246, u247, u248, u249, u250, u251, u252, u253, u254, u255, u256, u257, u258, u259, u260, u261, u262, u263, u264, u265, u266, u267, u268, u269, u270, u271, u272, u273, u274, u275, u276, u277, u278, u279, u280, u281, u282, u283, u284, u285, u286, u287, u288, u289, u290, u291, u292, u293, u294, u295, u296, u297, u298, u299, u300, u301, u302, u303, u304, u305, u306, u307, u308, u309, u310, u311, u312, u313, u314, u315, u316, u317, u318, u319, u320, u321, u322, u323, u324, u325, u326, u327, u328, u329, u330, u331, u332, u333, u334, u335, u336, u337, u338, u339, u340, u341, u342, u343, u344, u345, u346, u347, u348, u349, u350, u351, u352, u353, u354, u355, u356, u357, u358, u359, u360, u361, u362, u363, u364, u365, u366, u367, u368, u369, u370], []⟩ wr := by
  conv => arg 2; whnf
  have hnn : n * n ≤ 255 * 255 := Nat.mul_le_mul hn hn
  have hnn1 : (0 : Int) ≤ (n : Int) * (n : Int) ∧ (n : Int) * (n : Int) ≤ 65025 := by rw [← Int.natCast_mul]; omega
  have hm3 := run_madeB2 n hn
  have hw2 : wr.heap.size = w.heap.size + 3 := hS.sz
  have HS := mkHid (S2.start (flip := flip) hS)
  have HL := mkHid hL
  have HC := mkHid hC
  clear hS hL hC
  go_upto_region 10 with fail
  rename_i K7 h7 K1 h1
  have H7 := mkHid h7
  clear h7 hm3
  by_cases hn0 : 0 < n
  rotate_left
  · obtain rfl : n = 0 := by omega
    go_wp2
    refine H7.out _ _ ?_
    exact t7 (ll := 0) hn (by omega) hcl HC.out HS.out
  have hn0' : (0 : Int) < (n : Int) := by omega
  go_wp2
  go_loopw [77] (fun ix wx => ∃ (j : Nat) (m : Nat → Bool) (au : Nat → List Nat) (av : Nat → Value), j ≤ ll ∧ ix = .int .i64 j ∧ S2 w n A O flip j wx m au av) (fun ix _ => ll - (intOf ix).toNat)
  case atStart => exact ⟨0, _, _, _, Nat.zero_le _, rfl, HS.out⟩
  case round =>
    obtain ⟨j, m, au, av, hj, rfl, hS⟩ := hrel
    clear HS hw2
    by_cases hjl : j < ll
    · obtain ⟨lb, off, hla, hlb, hc0, hc1, hf0, hf1⟩ := (HL.out.below hS.bel (Nat.le_refl _)) j hjl
      have hix := run_index29 la lb off ll lc j hla hjl
      have hjl' : (j : Int) < (ll : Int) := by omega
      obtain ⟨a, ha⟩ : ∃ a, f0 j % n = a := ⟨_, rfl⟩
      obtain ⟨b, hb⟩ : ∃ b, f1 j % n = b := ⟨_, rfl⟩
      have han : a < n := by rw [← ha]; exact Nat.mod_lt _ hn0
      have hbn : b < n := by rw [← hb]; exact Nat.mod_lt _ hn0
      have ea : ((f0 j : Nat) : Int) % (n : Int) = (a : Int) := by rw [← Int.natCast_emod, ha]
      have eb : ((f1 j : Nat) : Int) % (n : Int) = (b : Int) := by rw [← Int.natCast_emod, hb]
      have hnz : ¬ (n : Int) = 0 := by omega
      have hszr : w.heap.size + 4 ≤ wr.heap.size := hS.sz
      have hlbr : lb < wr.heap.size := by omega
      have hA2 := hS.a2
      have hA1 := hS.a1
      have hA3 : ¬ A = w.heap.size + 3 := by omega
      have hA2' : ¬ A = w.heap.size + 2 := by omega
      have HS := mkHid hS
      have EA := mkHid ea
      have EB := mkHid eb
      clear hla ha hb hS ea eb
      by_cases hab0 : a = b
      · subst hab0
        have hee : ((f0 j : Nat) : Int) % (n : Int) = ((f1 j : Nat) : Int) % (n : Int) := by rw [EA.out, EB.out]
        go_wp2
        go_roundw
        case rel => exact ⟨j + 1, m, au, av, by omega, by go_num, (HS.out.keep ((Below.refl _ _).alloc (Nat.le_refl _) _)).more⟩
        case measure => simp [intOf]; omega
      have hne' : ¬ ((f0 j : Nat) : Int) % (n : Int) = ((f1 j : Nat) : Int) % (n : Int) := by rw [EA.out, EB.out]; omega
      go_upto_if 98 with fail
      obtain ⟨W, hW⟩ : ∃ W, wr.alloc (.cells #[.int .u8 (f0 j : Nat), .int .u8 (f1 j : Nat)] 42) = W := ⟨_, rfl⟩
      rw [hW]
      have hS' : S2 w n A O flip j W m au av := by rw [← hW]; exact HS.out.keep ((Below.refl _ _).alloc (Nat.le_refl _) _)
      have HS' := mkHid hS'
      have hszW : w.heap.size + 4 ≤ W.heap.size := hS'.sz
      clear hS' HS hW hszr hlbr hc0 hc1 hix
      go_cut [17, 18] (fun s t wx => (∃ hi lo : Nat, hi < n ∧ lo < hi ∧ s = .int .i64 hi ∧ t = .int .i64 lo) ∧ wx = W)
      case first =>
        rcases Nat.lt_or_gt_of_ne hab0 with hab | hab
        · have hlt' : ((f0 j : Nat) : Int) % (n : Int) < ((f1 j : Nat) : Int) % (n : Int) := by rw [EA.out, EB.out]; omega
          go_wp2
          go_meet
          case rel => exact ⟨⟨b, a, hbn, hab, by rw [EB.out], by rw [EA.out]⟩, rfl⟩
        · have hlt' : ((f1 j : Nat) : Int) % (n : Int) < ((f0 j : Nat) : Int) % (n : Int) := by rw [EA.out, EB.out]; omega
          go_wp2
          go_meet
          case rel => exact ⟨⟨a, b, han, hab, by rw [EA.out], by rw [EB.out]⟩, rfl⟩
      case rest =>
        obtain ⟨⟨hi, lo, hhi, hlo, rfl, rfl⟩, hw⟩ := hcut
        have hw' := hw.symm
        clear hw
        subst hw'
        have HS := HS'
        have hln : lo < n := by omega
        have hb3 : w.heap.size + 3 < W.heap.size := by omega
        have hb2 : w.heap.size + 2 < W.heap.size := by omega
        have hAr : A < W.heap.size := by omega
        have hfx := run_flat (w.heap.size + 3) n hi lo hhi hln
        have hfb := flat_bound hn hhi
        have hmc := HS.out.adj.cell (hi * n + lo) (flat_lt hhi hln)
        have hmf := HS.out.adj.free (hi * n + lo)
        clear HS' hne' hab0
        cases hmb : m (hi * n + lo)
        · rw [hmb] at hmc
          have HM := mkHid hmb
          clear hmb
          go_wp2_with fail
          refine (pos_any n hi flip hn hhi _).mono ?_
          rintro e wq ⟨rfl, hwq⟩
          subst hwq
          have hp := pos_lt (flip := flip) hhi
          have hq := pos_lt (flip := flip) hln
          obtain ⟨p, hpe⟩ : ∃ p, pos n flip hi = p := ⟨_, rfl⟩
          obtain ⟨q, hqe⟩ : ∃ q, pos n flip lo = q := ⟨_, rfl⟩
          rw [hpe] at hp ⊢
          rw [hqe] at hq
          go_wp2_with fail
          obtain ⟨aa, ac, hav⟩ := own_form (HS.out.rows p hp)
          obtain ⟨W0, hW0⟩ : ∃ W0, (W.setCell ⟨w.heap.size + 3, hi * n + lo, none⟩ (.bool true)) = W0 := ⟨_, rfl⟩
          rw [hW0]
          have hF0 : ∀ y, y < W.heap.size → y ≠ w.heap.size + 3 → W0.heap[y]? = W.heap[y]? := fun y _ hne => by
            rw [← hW0]
            exact heap_setCell_other _ _ _ _ hne
          have hg0 : W0.cell? ⟨w.heap.size + 2, 0, none⟩ = some (.slice (some ⟨A, 0, none⟩) n n) := (At.cell ((hF0 _ hb2 (by omega)).trans HS.out.gat) 0).trans rfl
          have hc3 : W0.cell? ⟨A, p * 4 + 3, none⟩ = some (.slice aa (au p).length ac) := by rw [← hav]; exact (HS.out.nb.keep (hF0 A hAr hA3)).c3 p hp
          have hxp := run_index31 A n n p hp
          have hxq := run_index31 A n n q hq
          clear hfx hfb hmc hmf
          refine ways_begin (S := fun w' => w'.cell? ⟨w.heap.size + 2, 0, none⟩ = some (.slice (some ⟨A, 0, none⟩) n n) ∧ w'.cell? ⟨A, p * 4 + 3, none⟩ = some (.slice aa (au p).length ac)) (z := 26) (by kernel_rfl) ?_
          have hHeld : W0.drew.cell? ⟨w.heap.size + 2, 0, none⟩ = some (.slice (some ⟨A, 0, none⟩) n n) ∧ W0.drew.cell? ⟨A, p * 4 + 3, none⟩ = some (.slice aa (au p).length ac) := ⟨hg0, hc3⟩
          refine ways_take (i := 0) (oi := { dst := some 120, op := _, type := _, pos := _, after := _, guard := none }) (v := ?v0) rfl (by kernel_rfl) (by kernel_rfl) (by kernel_rfl) (by kernel_rfl) (fun _ _ _ h => h) (Or.inl ⟨by rfl, ?hy0⟩) hHeld ?rest0
          case hy0 => (intro w' hSw; go_simp <;> with_reducible rfl)
          simp only [Act.put, List.setIfInBounds_toArray, List.set_cons_zero, List.set_cons_succ]
          refine ways_take (i := 1) (oi := { dst := some 121, op := _, type := _, pos := _, after := _, guard := none }) (v := ?v1) rfl (by kernel_rfl) (by kernel_rfl) (by kernel_rfl) (by kernel_rfl) (fun _ _ _ h => h) (Or.inl ⟨by rfl, ?hy1⟩) hHeld ?rest1
          case hy1 => (intro w' hSw; go_simp <;> with_reducible rfl)
          simp only [Act.put, List.setIfInBounds_toArray, List.set_cons_zero, List.set_cons_succ]
          refine ways_take (i := 2) (oi := { dst := some 122, op := _, type := _, pos := _, after := _, guard := none }) (v := ?v2) rfl (by kernel_rfl) (by kernel_rfl) (by kernel_rfl) (by kernel_rfl) (fun _ _ _ h => h) (Or.inl ⟨by rfl, ?hy2⟩) hHeld ?rest2
          case hy2 => (intro w' hSw; go_simp <;> with_reducible rfl)
          simp only [Act.put, List.setIfInBounds_toArray, List.set_cons_zero, List.set_cons_succ]
          refine ways_take (i := 3) (oi := { dst := some 123, op := _, type := _, pos := _, after := _, guard := none }) (v := ?v3) rfl (by kernel_rfl) (by kernel_rfl) (by kernel_rfl) (by kernel_rfl) (fun _ _ _ h => h) (Or.inl ⟨by rfl, ?hy3⟩) hHeld ?rest3
          case hy3 => (intro w' hSw; go_simp <;> with_reducible rfl)
          simp only [Act.put, List.setIfInBounds_toArray, List.set_cons_zero, List.set_cons_succ]
          refine ways_take (i := 4) (oi := { dst := some 124, op := _, type := _, pos := _, after := _, guard := none }) (v := ?v4) rfl (by kernel_rfl) (by kernel_rfl) (by kernel_rfl) (by kernel_rfl) (fun _ _ _ h => h) (Or.inl ⟨by rfl, ?hy4⟩) hHeld ?rest4
          case hy4 => (intro w' hSw; go_simp <;> with_reducible rfl)
          simp only [Act.put, List.setIfInBounds_toArray, List.set_cons_zero, List.set_cons_succ]
          refine ways_take (i := 5) (oi := { dst := some 125, op := _, type := _, pos := _, after := _, guard := none }) (v := ?v5) rfl (by kernel_rfl) (by kernel_rfl) (by kernel_rfl) (by kernel_rfl) (fun _ _ _ h => h) (Or.inl ⟨by rfl, ?hy5⟩) hHeld ?rest5
          case hy5 => (intro w' hSw; go_simp <;> with_reducible rfl)
          simp only [Act.put, List.setIfInBounds_toArray, List.set_cons_zero, List.set_cons_succ]
          refine ways_take (i := 6) (oi := { dst := some 126, op := _, type := _, pos := _, after := _, guard := none }) (v := ?v6) rfl (by kernel_rfl) (by kernel_rfl) (by kernel_rfl) (by kernel_rfl) (fun _ _ _ h => h) (Or.inl ⟨by rfl, ?hy6⟩) hHeld ?rest6
          case hy6 => (intro w' hSw; go_simp <;> with_reducible rfl)
          simp only [Act.put, List.setIfInBounds_toArray, List.set_cons_zero, List.set_cons_succ]
          refine ways_take (i := 7) (oi := { dst := some 127, op := _, type := _, pos := _, after := _, guard := none }) (v := ?v7) rfl (by kernel_rfl) (by kernel_rfl) (by kernel_rfl) (by kernel_rfl) (fun _ _ _ h => h) (Or.inl ⟨by rfl, ?hy7⟩) hHeld ?rest7
          case hy7 => (intro w' hSw; go_simp <;> with_reducible rfl)
          simp only [Act.put, List.setIfInBounds_toArray, List.set_cons_zero, List.set_cons_succ]
          refine ways_take (i := 8) (oi := { dst := some 128, op := _, type := _, pos := _, after := _, guard := none }) (v := ?v8) rfl (by kernel_rfl) (by kernel_rfl) (by kernel_rfl) (by kernel_rfl) (fun _ _ _ h => h) (Or.inl ⟨by rfl, ?hy8⟩) hHeld ?rest8
          case hy8 => (intro w' hSw; go_simp <;> with_reducible rfl)
          simp only [Act.put, List.setIfInBounds_toArray, List.set_cons_zero, List.set_cons_succ]
          refine ways_take (i := 9) (oi := { dst := some 129, op := _, type := _, pos := _, after := _, guard := none }) (v := ?v9) rfl (by kernel_rfl) (by kernel_rfl) (by kernel_rfl) (by kernel_rfl) (fun _ _ _ h => h) (Or.inl ⟨by rfl, ?hy9⟩) hHeld ?rest9
          case hy9 => (intro w' hSw; go_simp <;> with_reducible rfl)
          simp only [Act.put, List.setIfInBounds_toArray, List.set_cons_zero, List.set_cons_succ]
          refine ways_take (i := 10) (oi := { dst := some 130, op := _, type := _, pos := _, after := _, guard := none }) (v := ?v10) rfl (by kernel_rfl) (by kernel_rfl) (by kernel_rfl) (by kernel_rfl) (fun _ _ _ h => h) (Or.inl ⟨by rfl, ?hy10⟩) hHeld ?rest10
          case hy10 => (intro w' hSw; go_simp <;> with_reducible rfl)
          simp only [Act.put, List.setIfInBounds_toArray, List.set_cons_zero, List.set_cons_succ]
          refine ways_take (i := 11) (oi := { dst := some 131, op := _, type := _, pos := _, after := _, guard := none }) (v := ?v11) rfl (by kernel_rfl) (by kernel_rfl) (by kernel_rfl) (by kernel_rfl) (fun _ _ _ h => h) (Or.inl ⟨by rfl, ?hy11⟩) hHeld ?rest11
          case hy11 => (intro w' hSw; go_simp <;> with_reducible rfl)
          simp only [Act.put, List.setIfInBounds_toArray, List.set_cons_zero, List.set_cons_succ]
          refine ways_take (i := 12) (oi := { dst := some 132, op := _, type := _, pos := _, after := _, guard := none }) (v := ?v12) rfl (by kernel_rfl) (by kernel_rfl) (by kernel_rfl) (by kernel_rfl) (fun _ _ _ h => h) (Or.inl ⟨by rfl, ?hy12⟩) hHeld ?rest12
          case hy12 => (intro w' hSw; go_simp <;> with_reducible rfl)
          simp only [Act.put, List.setIfInBounds_toArray, List.set_cons_zero, List.set_cons_succ]
          refine ways_take (i := 13) (oi := { dst := some 133, op := _, type := _, pos := _, after := _, guard := none }) (v := ?v13) rfl (by kernel_rfl) (by kernel_rfl) (by kernel_rfl) (by kernel_rfl) (fun _ _ _ h => h) (Or.inl ⟨by rfl, ?hy13⟩) hHeld ?rest13
          case hy13 => (intro w' hSw; go_simp <;> with_reducible rfl)
          simp only [Act.put, List.setIfInBounds_toArray, List.set_cons_zero, List.set_cons_succ]
          refine ways_take (i := 14) (oi := { dst := some 134, op := _, type := _, pos := _, after := _, guard := none }) (v := ?v14) rfl (by kernel_rfl) (by kernel_rfl) (by kernel_rfl) (by kernel_rfl) (fun _ _ _ h => h) (Or.inl ⟨by rfl, ?hy14⟩) hHeld ?rest14
          case hy14 => (intro w' hSw; go_simp <;> with_reducible rfl)
          simp only [Act.put, List.setIfInBounds_toArray, List.set_cons_zero, List.set_cons_succ]
          refine ways_take (i := 15) (oi := { dst := some 135, op := _, type := _, pos := _, after := _, guard := none }) (v := ?v15) rfl (by kernel_rfl) (by kernel_rfl) (by kernel_rfl) (by kernel_rfl) (fun _ _ _ h => h) (Or.inl ⟨by rfl, ?hy15⟩) hHeld ?rest15
          case hy15 => (intro w' hSw; go_simp <;> with_reducible rfl)
          simp only [Act.put, List.setIfInBounds_toArray, List.set_cons_zero, List.set_cons_succ]
          refine ways_take (i := 16) (oi := { dst := some 136, op := _, type := _, pos := _, after := _, guard := none }) (v := ?v16) rfl (by kernel_rfl) (by kernel_rfl) (by kernel_rfl) (by kernel_rfl) (fun _ _ _ h => h) (Or.inl ⟨by rfl, ?hy16⟩) hHeld ?rest16
          case hy16 => (intro w' hSw; go_simp <;> with_reducible rfl)
          simp only [Act.put, List.setIfInBounds_toArray, List.set_cons_zero, List.set_cons_succ]
          refine ways_take (i := 17) (oi := { dst := some 137, op := _, type := _, pos := _, after := _, guard := none }) (v := ?v17) rfl (by kernel_rfl) (by kernel_rfl) (by kernel_rfl) (by kernel_rfl) (fun _ _ _ h => h) (Or.inl ⟨by rfl, ?hy17⟩) hHeld ?rest17
          case hy17 => (intro w' hSw; go_simp <;> with_reducible rfl)
          simp only [Act.put, List.setIfInBounds_toArray, List.set_cons_zero, List.set_cons_succ]
          refine ways_take (i := 18) (oi := { dst := some 138, op := _, type := _, pos := _, after := _, guard := none }) (v := ?v18) rfl (by kernel_rfl) (by kernel_rfl) (by kernel_rfl) (by kernel_rfl) (fun _ _ _ h => h) (Or.inl ⟨by rfl, ?hy18⟩) hHeld ?rest18
          case hy18 => (intro w' hSw; go_simp <;> with_reducible rfl)
          simp only [Act.put, List.setIfInBounds_toArray, List.set_cons_zero, List.set_cons_succ]
          refine ways_take (i := 19) (oi := { dst := some 139, op := _, type := _, pos := _, after := _, guard := none }) (v := ?v19) rfl (by kernel_rfl) (by kernel_rfl) (by kernel_rfl) (by kernel_rfl) (fun _ _ _ h => h) (Or.inl ⟨by rfl, ?hy19⟩) hHeld ?rest19
          case hy19 => (intro w' hSw; go_simp <;> with_reducible rfl)
          simp only [Act.put, List.setIfInBounds_toArray, List.set_cons_zero, List.set_cons_succ]
          refine ways_one (i := 20) (o := { dst := some 140, op := _, type := _, pos := _, after := _, guard := none }) rfl (by kernel_rfl) (fun K hK => ?_)
          go_simp
          refine (pos_any n lo flip hn hln _).mono ?_
          rintro e wq ⟨rfl, hwq⟩
          subst hwq
          rw [hqe]
          refine hK.out _ _ hHeld ?_
          clear hK K
          (try simp only [Act.put, List.setIfInBounds_toArray, List.set_cons_zero, List.set_cons_succ])
          refine ways_take (i := 21) (oi := { dst := some 141, op := _, type := _, pos := _, after := _, guard := none }) (v := ?v21) rfl (by kernel_rfl) (by kernel_rfl) (by kernel_rfl) (by kernel_rfl) (fun _ _ _ h => h) (Or.inl ⟨by rfl, ?hy21⟩) hHeld ?rest21
          case hy21 => (intro w' hSw; go_simp <;> with_reducible rfl)
          simp only [Act.put, List.setIfInBounds_toArray, List.set_cons_zero, List.set_cons_succ]
          refine ways_one (i := 22) (o := { dst := some 142, op := _, type := _, pos := _, after := _, guard := none }) rfl (by kernel_rfl) (fun K hK => ?_)
          go_simp
          obtain ⟨W1, hW1⟩ : ∃ W1, (W0.alloc (.cells #[.pointer (some ⟨A, q * 4, none⟩)] 44)).drew = W1 := ⟨_, rfl⟩
          have hsz0 : W0.heap.size = W.heap.size := by rw [← hW0]; simp [World.setCell]
          have hb01 : Below W0.heap.size W0 W1 := by rw [← hW1]; exact ((Below.refl _ _).alloc (Nat.le_refl _) _).drew
          have hHeld1 : W1.cell? ⟨w.heap.size + 2, 0, none⟩ = some (.slice (some ⟨A, 0, none⟩) n n) ∧ W1.cell? ⟨A, p * 4 + 3, none⟩ = some (.slice aa (au p).length ac) :=
            ⟨(hb01.cell (p := ⟨w.heap.size + 2, 0, none⟩) (by show w.heap.size + 2 < _; omega)).trans hg0, (hb01.cell (p := ⟨A, p * 4 + 3, none⟩) (by show A < _; omega)).trans hc3⟩
          have hrow0 : W0.ownsRow (w.heap.size + 4) 44 1 (.slice aa (au p).length ac) (au p).length ((au p).map (nd A)) := by
            rw [← hav]
            exact own_keep (HS.out.rows p hp) (fun g hg => hF0 g ((HS.out.rows p hp).lt g hg).2 (by have := ((HS.out.rows p hp).lt g hg).1; omega))
          have hrow1 : W1.ownsRow (w.heap.size + 4) 44 1 (.slice aa (au p).length ac) (au p).length ((au p).map (nd A)) := own_keep hrow0 (fun g hg => hb01.block g (hrow0.lt g hg).2)
          have hnew1 : W1.cell? ⟨W0.heap.size, 0, none⟩ = some (nd A q) := by rw [← hW1]; exact (At.cell (At.new W0 (.cells #[.pointer (some ⟨A, q * 4, none⟩)] 44)) 0).trans rfl
          rw [hW1]
          refine hK.out _ _ hHeld1 ?_
          clear hK K
          (try simp only [Act.put, List.setIfInBounds_toArray, List.set_cons_zero, List.set_cons_succ])
          refine ways_one (i := 23) (o := { dst := some 143, op := _, type := _, pos := _, after := _, guard := none }) rfl (by kernel_rfl) (fun K hK => ?_)
          rw [if_pos (by rfl)]
          refine wp_app (.tmp 132) (.tmp 142) rfl (w.heap.size + 4) _ (au p).length ((au p).map (nd A)) rfl hrow1 ⟨W0.heap.size, 0, none⟩ (nd A q) rfl hnew1 rfl ?_ ?_ ?_
          · have := HS.out.len p hp; omega
          · have := hb01.size; omega
          intro v' W2 ho2 hgb2 hv2
          have hown4 : ∀ g, (Value.slice aa (au p).length ac).ownBlock = some g → w.heap.size + 4 ≤ g := fun g hg => (hrow1.lt g hg).1
          have hHeld2 : W2.cell? ⟨w.heap.size + 2, 0, none⟩ = some (.slice (some ⟨A, 0, none⟩) n n) ∧ W2.cell? ⟨A, p * 4 + 3, none⟩ = some (.slice aa (au p).length ac) :=
            ⟨hgb2.cell hHeld1.1 (fun e => by have := hown4 _ e.symm; simp at this), hgb2.cell hHeld1.2 (fun e => by have := hown4 _ e.symm; simp at this; omega)⟩
          have hf2 : W2.frozen? ⟨A, p * 4 + 3, none⟩ = false := by
            have h0 : W0.heap[A]? = W.heap[A]? := hF0 A hAr hA3
            have h1 : W1.heap[A]? = W0.heap[A]? := hb01.block A (by omega)
            have h2 : W2.heap[A]? = W1.heap[A]? := hgb2.block A (by have := hb01.size; omega) (fun e => by have := hown4 _ e.symm; omega)
            exact (HS.out.nb.keep (h2.trans (h1.trans h0))).free _
          obtain ⟨va, vc, rfl⟩ := own_form ho2
          refine hK.out _ _ hHeld2 ?_
          clear hK K
          simp only [Act.put, List.setIfInBounds_toArray, List.set_cons_zero, List.set_cons_succ]
          refine ways_one (i := 24) (o := { dst := some 144, op := _, type := _, pos := _, after := _, guard := none }) rfl (by kernel_rfl) (fun K hK => ?_)
          go_simp
          refine hK.out _ _ hHeld2 ?_
          clear hK K
          (try simp only [Act.put, List.setIfInBounds_toArray, List.set_cons_zero, List.set_cons_succ])
          refine ways_take (i := 25) (oi := { dst := some 145, op := _, type := _, pos := _, after := _, guard := none }) (v := ?v25) rfl (by kernel_rfl) (by kernel_rfl) (by kernel_rfl) (by kernel_rfl) (fun _ _ _ h => h) (Or.inl ⟨by rfl, ?hy25⟩) hHeld2 ?rest25
          case hy25 => (intro w' hSw; go_simp <;> with_reducible rfl)
          simp only [Act.put, List.setIfInBounds_toArray, List.set_cons_zero, List.set_cons_succ]
          refine ways_last (o := { dst := none, op := _, type := _, pos := _, after := _, guard := none }) rfl (by kernel_rfl) (by kernel_rfl) (fun K hK => ?_)
          go_simp
          refine hK.out _ _ ?_
          clear hK K
          have hlk := HS.out.link (wy := W2) hi lo hhi hlo (.slice va ((au p).length + 1) vc) (by rw [hpe, hqe]; exact ho2)
            (by
              rw [hpe, hav]
              have e0 : (W.setCell ⟨w.heap.size + 3, hi * n + lo, none⟩ (.bool true)).grownBy W1 (Value.slice aa (au p).length ac).ownBlock := by
                rw [← hW1, ← hW0]
                exact gb_drew2 (World.grownBy_alloc _ _ _)
              exact gb_trans e0 hgb2)
            (by
              rw [hpe, hav]
              rcases hv2 with h0 | ⟨g, hg, hge⟩
              · exact .inl h0
              · exact .inr ⟨g, hg, by have := hb01.size; omega⟩)
          rw [hpe, hqe] at hlk
          have HLK := mkHid hlk
          clear hlk ho2 hgb2 hv2 hHeld hHeld1 hHeld2 hrow0 hrow1 hnew1 hf2 hown4
          go_wp2
          go_roundw
          case rel => exact ⟨j + 1, _, _, _, by omega, by go_num, HLK.out⟩
          case measure => simp [intOf]; omega
        · rw [hmb] at hmc
          clear hmb
          go_wp2
          go_roundw
          case rel => exact ⟨j + 1, m, au, av, by omega, by go_num, HS.out.more⟩
          case measure => simp [intOf]; omega
    · obtain rfl : ll = j := by omega
      have HS := mkHid hS
      clear hS hj hjl
      go_wp2
      refine H7.out _ _ ?_
      exact t7 hn hll hcl HC.out HS.out
end Go.Proofs.Ybulkrsi
