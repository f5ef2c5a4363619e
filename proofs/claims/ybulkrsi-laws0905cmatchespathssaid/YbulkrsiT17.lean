/-
  Seat b0905a. The law's last part: what the subgraph holds is compared.
-/
import Derived.Test.YbulkrsiT0
import Derived.Lib.Builder
namespace Go.Proofs.Ybulkrsi
open Go.RowKit

theorem run_neq44 (A p : Nat) (w : World) : (binOp .neq 44 (.pointer (some ⟨A, p * 4, none⟩)) (.pointer (some ⟨A, p * 4, none⟩))).run Yba.prog w = .ok (.bool false) w := by
  obtain ⟨i, hi, _, _, _⟩ := info_parts Yba.info40
  exact Go.Lib.run_neq_ptr_same w _ Yba.underlying44 hi
theorem filt_at (f : Nat → Bool) (i : Nat) (hf : f i = true) : ∀ n, i < n → ((List.range n).filter f)[((List.range i).filter f).length]? = some i
  | 0, h => by omega
  | n + 1, h => by
    rw [List.range_succ, List.filter_append]
    by_cases e : i = n
    · subst e
      rw [List.getElem?_append_right (Nat.le_refl _)]
      simp [hf]
    · have ih := filt_at f i hf n (by omega)
      have hlt : ((List.range i).filter f).length < ((List.range n).filter f).length := (List.getElem?_eq_some_iff.1 ih).1
      rw [List.getElem?_append_left hlt]
      exact ih
theorem filt_succ (f : Nat → Bool) (i : Nat) : ((List.range (i + 1)).filter f).length = ((List.range i).filter f).length + (if f i then 1 else 0) := by
  rw [List.range_succ, List.filter_append, List.length_append]
  cases h : f i <;> simp [h]
theorem filt_le (f : Nat → Bool) (i : Nat) : ((List.range i).filter f).length ≤ i := by
  have := List.length_filter_le f (List.range i)
  simpa using this

/-- What the law itself reckons, node by node, is what the subgraph holds. -/
theorem want_iff {n : Nat} {flip : Bool} {au : Nat → List Nat} {c : List Nat} {hc ic R : Nat → Bool} (hlk : ∀ x, x < n → hc (pos n flip x) = ic x) (hmem : ∀ x, x < n → (hc x = true ↔ x ∈ c)) (hlt : ∀ x, x ∈ c → x < n)
    (hR : ∀ i k, i < n → k < n → (R (i * n + k) = true ↔ Pth au (pos n flip i) (pos n flip k))) (i : Nat) (hi : i < n) (fb tb : Bool) (hf : fb = true ↔ ∃ y, y < n ∧ ic y = true ∧ R (y * n + i) = true) (ht : tb = true ↔ ∃ y, y < n ∧ ic y = true ∧ R (i * n + y) = true) :
    want au c (pos n flip i) = (!ic i && fb && tb) := by
  have hx : ∀ y, y < n → (ic y = true ↔ pos n flip y ∈ c) := fun y hy => by rw [← hlk y hy]; exact hmem _ (pos_lt hy)
  have h1 : (∃ y, y ∈ c ∧ Pth au y (pos n flip i)) ↔ fb = true := by
    rw [hf]
    constructor
    · rintro ⟨y, hy, hp⟩
      have hyn := hlt y hy
      refine ⟨pos n flip y, pos_lt hyn, (hx _ (pos_lt hyn)).2 (by rw [pos_pos hyn]; exact hy), (hR _ _ (pos_lt hyn) hi).2 (by rw [pos_pos hyn]; exact hp)⟩
    · rintro ⟨y, hy, h1, h2⟩
      exact ⟨_, (hx y hy).1 h1, (hR _ _ hy hi).1 h2⟩
  have h2 : (∃ y, y ∈ c ∧ Pth au (pos n flip i) y) ↔ tb = true := by
    rw [ht]
    constructor
    · rintro ⟨y, hy, hp⟩
      have hyn := hlt y hy
      refine ⟨pos n flip y, pos_lt hyn, (hx _ (pos_lt hyn)).2 (by rw [pos_pos hyn]; exact hy), (hR _ _ hi (pos_lt hyn)).2 (by rw [pos_pos hyn]; exact hp)⟩
    · rintro ⟨y, hy, h1, h2⟩
      exact ⟨_, (hx y hy).1 h1, (hR _ _ hi hy).1 h2⟩
  have h3 : pos n flip i ∈ c ↔ ic i = true := (hx i hi).symm
  cases hv : (!ic i && fb && tb)
  · refine want_false ?_
    rw [h1, h2, h3]
    rintro ⟨e1, e2, e3⟩
    rw [e1, e2] at hv
    cases hi : ic i <;> simp_all
  · refine want_true.2 ?_
    rw [h1, h2, h3]
    simp at hv
    exact ⟨hv.1.2, hv.2, by rw [hv.1.1]; simp⟩

set_option maxHeartbeats 8000000 in
set_option maxRecDepth 1000000 in
theorem t17 {n B G A J N Hc I M H2 RB c2 : Nat} {flip : Bool} {m hc ic hs R : Nat → Bool} {au : Nat → List Nat} {c ls : List Nat} {a2 : Option Addr} {w wr : World} {u0 u1 u2 u4 u5 u6 u7 u8 u11 u12 u13 u14 u15 u16 u17 u18 u19 u20 u21 u23 u24 u25 u26 u28 u30 u31 u32 u33 u34 u35 u36 u37 u38 u39 u40 u41 u42 u43 u44 u45 u46 u47 u48 u49 u50 u51 u52 u53 u54 u55 u56 u57 u58 u59 u60 u61 u62 u63 u64 u65 u66 u67 u68 u69 u70 u71 u72 u73 u74 u75 u76 u77 u78 u79 u80 u81 u82 u83 u84 u85 u86 u87 u88 u89 u90 u91 u92 u93 u94 u95 u96 u97 u98 u99 u100 u101 u102 u103 u104 u105 u106 u107 u108 u109 u110 u111 u112 u113 u114 u115 u116 u117 u118 u119 u120 u121 u122 u123 u124 u125 u126 u127 u128 u129 u130 u131 u132 u133 u134 u135 u136 u137 u138 u139 u140 u141 u142 u143 u144 u145 u146 u147 u148 u149 u150 u151 u152 u153 u154 u155 u156 u157 u158 u159 u160 u161 u162 u163 u164 u165 u166 u167 u168 u169 u170 u171 u172 u173 u174 u175 u176 u177 u178 u179 u180 u181 u182 u183 u184 u185 u186 u187 u188 u189 u190 u191 u192 u193 u194 u195 u196 u197 u198 u199 u200 u201 u202 u203 u204 u205 u206 u207 u208 u209 u210 u211 u212 u213 u214 u215 u216 u217 u218 u219 u220 u221 u222 u223 u224 u225 u226 u227 u228 u229 u230 u231 u232 u233 u234 u235 u236 u237 u238 u239 u240 u241 u242 u243 u244 u245 u246 u247 u248 u249 u250 u251 u252 u253 u254 u255 u256 u257 u258 u259 u260 u261 u262 u263 u264 u265 u266 u267 u268 u269 u270 u271 u272 u273 u274 u275 u276 u277 u278 u279 u280 u281 u282 u283 u284 u285 u286 u287 u288 u289 u290 u291 u292 u293 u294 u295 u296 u297 u298 u299 u300 u301 u302 u303 u304 u305 u306 u307 u308 u309 u310 u311 u312 u313 u314 u315 u316 u317 u318 u319 u320 u321 u322 u323 u324 u325 u326 u327 u328 u329 u330 u331 u332 u333 u334 u335 u336 u337 u338 u339 u340 u341 u342 u343 u344 u345 u346 u347 u348 u349 u350 u351 u352 u353 u354 u355 u356 u357 u358 u359 u360 u361 u362 u363 u364 u365 u366 u367 u368 u369 u370 : Value}
    (hn : n ≤ 255) (h5 : S5 w B n G A J N Hc I M H2 flip m hc ic hs au c ls a2 c2 wr) (hRB : Bools wr RB (n * n) R) (hR : ∀ i k, i < n → k < n → (R (i * n + k) = true ↔ Pth au (pos n flip i) (pos n flip k))) :
    Code.wp Yba.prog (tl 17) (bodyPost Yba.prog Yba.f5 (Fin w)) ⟨#[u0, u1, u2, .bool flip, u4, u5, u6, u7, u8, .int .i64 n, .pointer (some ⟨G, 0, none⟩), u11, u12, u13, u14, u15, u16, u17, u18, u19, u20, u21, .slice (some ⟨I, 0, none⟩) n n, u23, u24, u25, u26, .pointer (some ⟨M, 0, none⟩), u28, .slice (some ⟨RB, 0, none⟩) (n * n) (n * n), u30, u31, u32, u33, u34, u35, u36, u37, u38, u39, u40, u41, u42, u43, u44, u45, u46, u47, u48, u49, u50, u51, u52, u53, u54, u55, u56, u57, u58, u59, u60, u61, u62, u63, u64, u65, u66, u67, u68, u69, u70, u71, u72, u73, u74, u75, u76, u77, u78, u79, u80, u81, u82, u83, u84, u85, u86, u87, u88, u89, u90, u91, u92, u93, u94, u95, u96, u97, u98, u99, u100, u101, u102, u103, u104, u105, u106, u107, u108, u109, u110, u111, u112, u113, u114, u115, u116, u117, u118, u119, u120, u121, u122, u123, u124, u125, u126, u127, u128, u129, u130, u131, u132, u133, u134, u135, u136, u137, u138, u139, u140, u141, u142, u143, u144, u145, u146, u147, u148, u149, u150, u151, u152, u153, u154, u155, u156, u157, u158, u159, u160, u161, u162, u163, u164, u165, u166, u167, u168, u169, u170, u171, u172, u173, u174, u175, u176, u177, u178, u179, u180, u181, u182, u183, u184, u185, u186, u187, u188, u189, u190, u191, u192, u193, u194, u195, u196, u197, u198, u199, u200, u201, u202, u203, u204, u205, u206, u207, u208, u209, u210, u211, u212, u213, u214, u215, u216, u217, u218, u219, u220, u221, u222, u223, u224, u225, u226, u227, u228, u229, u230, u231, u232, u233, u234, u235, u236, u237, u238, u239, u240, u241, u242, u243, u244, u245, u246, u247, u248, u249, u250, u251, u252, u253, u254, u255, u256, u257, u258, u259, u260, u261, u262, u263, u264, u265, u266, u267, u268, u269, u270, u271, u272, u273, u274, u275, u276, u277, u278, u279, u280, u281, u282, u283, u284, u285, u286, u287, u288, u289, u290, u291, u292, u293, u294, u295, u296, u297, u298, u299, u300, u301, u302, u303, u304, u305, u306, u307, u308, u309, u310, u311, u312, u313, u314, u315, u316, u317, u318, u319, u320, u321, u322, u323, u324, u325, u326, u327, u328, u329, u330, u331, u332, u333, u334, u335, u336, u337, u338, u339, u340, u341, u342, u343, u344, u345, u346, u347, u348, u349, u350, u351, u352, u353, u354, u355, u356, u357, u358, u359, u360, u361, u362, u363, u364, u365, u366, u367, u368, u369, u370], []⟩ wr := by
  conv => arg 2; whnf
  have hm0 := h5.m0
  have hm1 := h5.m1
  have H5 := mkHid h5
  have HR := mkHid hRB
  have HP := mkHid hR
  have hlse : ls.length = ((List.range n).filter (fun x => want au c (pos n flip x))).length := by rw [h5.lse, List.filter_map, List.length_map]; rfl
  have HLS := mkHid hlse
  clear h5 hRB hR hlse
  go_wp2
  go_loopw [34, 33] (fun vv kk wx => ∃ i : Nat, i ≤ n ∧ vv = .int .i64 i ∧ kk = .int .i64 ((((List.range i).filter (fun x => want au c (pos n flip x))).length : Nat) : Int) ∧ S5 w B n G A J N Hc I M H2 flip m hc ic hs au c ls a2 c2 wx ∧ Bools wx RB (n * n) R) (fun vv _ _ => n - (intOf vv).toNat)
  case atStart => exact ⟨0, Nat.zero_le _, rfl, rfl, H5.out, HR.out⟩
  case round =>
    clear H5 HR hm0 hm1
    obtain ⟨i, hi, rfl, rfl, h5, hrb⟩ := hrel
    obtain ⟨K, hK⟩ : ∃ K, ((List.range i).filter (fun x => want au c (pos n flip x))).length = K := ⟨_, rfl⟩
    rw [hK]
    by_cases hin : i < n
    · have hin' : (i : Int) < (n : Int) := by omega
      have HK := mkHid hK
      have H5 := mkHid h5
      have HRB := mkHid hrb
      have hm0 := h5.m0
      have hm1 := h5.m1
      clear hK h5 hrb
      go_wp2
      go_loopw [35, 36, 37] (fun ff tt cc wx => ∃ (x : Nat) (fb tb : Bool), x ≤ n ∧ cc = .int .i64 x ∧ ff = .bool fb ∧ tt = .bool tb ∧ (fb = true ↔ ∃ y, y < x ∧ ic y = true ∧ R (y * n + i) = true) ∧ (tb = true ↔ ∃ y, y < x ∧ ic y = true ∧ R (i * n + y) = true) ∧ wx = wr) (fun _ _ cc _ => n - (intOf cc).toNat)
      case atStart => exact ⟨0, false, false, Nat.zero_le _, rfl, rfl, rfl, by simp, by simp, rfl⟩
      case round =>
        obtain ⟨x, fb, tb, hx, rfl, rfl, rfl, hfb, htb, hw⟩ := hrel
        subst hw
        have HF := mkHid hfb
        have HT := mkHid htb
        clear hfb htb
        by_cases hxn : x < n
        · --BEGIN1
          have hxn' : (x : Int) < (n : Int) := by omega
          have hic := H5.out.inc.cell x hxn
          have hixx := run_index41 I n n x hxn
          have hb1 := flat_bound hn hxn
          have hb2 := flat_bound hn hin
          cases hcx : ic x
          · rw [hcx] at hic
            have HCX := mkHid hcx
            clear hcx
            go_wp2
            go_roundw
            case rel =>
              refine ⟨x + 1, fb, tb, by omega, by go_num, rfl, rfl, HF.out.trans ⟨fun ⟨y, h1, h2⟩ => ⟨y, by omega, h2⟩, fun ⟨y, h1, h2⟩ => ⟨y, ?_, h2⟩⟩, HT.out.trans ⟨fun ⟨y, h1, h2⟩ => ⟨y, by omega, h2⟩, fun ⟨y, h1, h2⟩ => ⟨y, ?_, h2⟩⟩, trivial⟩
              · by_cases e : y = x
                · subst e; rw [HCX.out] at h2; simp at h2
                · omega
              · by_cases e : y = x
                · subst e; rw [HCX.out] at h2; simp at h2
                · omega
            case measure => simp [intOf]; omega
          · rw [hcx] at hic
            have HCX := mkHid hcx
            have hf1 := run_flat RB n x i hxn hin
            have hf2 := run_flat RB n i x hin hxn
            have hr1 := HRB.out.cell _ (flat_lt hxn hin)
            have hr2 := HRB.out.cell _ (flat_lt hin hxn)
            clear hcx
            cases h1 : R (x * n + i) <;> cases h2 : R (i * n + x)
            all_goals
              rw [h1] at hr1
              rw [h2] at hr2
              have HR1 := mkHid h1
              have HR2 := mkHid h2
              clear h1 h2
              go_wp2
              go_roundw
              case rel =>
                refine ⟨x + 1, _, _, by omega, by go_num, rfl, rfl, ?_, ?_, trivial⟩
                · simp only [true_iff, HF.out]
                  first
                  | exact ⟨x, by omega, HCX.out, HR1.out⟩
                  | exact ⟨fun ⟨y, h1, h2⟩ => ⟨y, by omega, h2⟩, fun ⟨y, h1, h2⟩ => ⟨y, (by
                      by_cases e : y = x
                      · subst e; rw [HR1.out] at h2; simp at h2
                      · omega), h2⟩⟩
                · simp only [true_iff, HT.out]
                  first
                  | exact ⟨x, by omega, HCX.out, HR2.out⟩
                  | exact ⟨fun ⟨y, h1, h2⟩ => ⟨y, by omega, h2⟩, fun ⟨y, h1, h2⟩ => ⟨y, (by
                      by_cases e : y = x
                      · subst e; rw [HR2.out] at h2; simp at h2
                      · omega), h2⟩⟩
              case measure => simp [intOf]; omega
          --END1
        · obtain rfl : n = x := by omega
          have key := want_iff H5.out.lk H5.out.mem H5.out.lt HP.out i hin fb tb HF.out HT.out
          have KEY := mkHid key
          have hic := H5.out.inc.cell i hin
          have hixi := run_index41 I n n i hin
          clear key HF HT
          go_upto_region 76 with fail
          go_cut [38] (fun s wx => s = .bool (want au c (pos n flip i)) ∧ wx = wr)
          case first =>
            --BEGIN2
            cases hiv : ic i <;> cases fb <;> cases tb
            all_goals
              have hk := KEY.out
              rw [hiv] at hk hic
              have HK2 := mkHid hk
              clear hk hiv
              go_wp2
              go_meet
              case rel => exact ⟨by rw [HK2.out]; rfl, rfl⟩
            --END2
          case rest =>
            obtain ⟨rfl, hw⟩ := hcut
            subst hw
            clear hic hixi KEY
            have hp := pos_lt (flip := flip) hin
            have hhs := H5.out.hsb.cell _ hp
            have hw5 := H5.out.wnt _ hp
            rw [hw5] at hhs
            clear hw5
            go_wp2_with fail
            refine (pos_any n i flip hn hin _).mono ?_
            rintro e wq ⟨rfl, hwq⟩
            subst hwq
            obtain ⟨p, hpe⟩ : ∃ p, pos n flip i = p := ⟨_, rfl⟩
            rw [hpe] at hp hhs ⊢
            have hixp := run_index41 H2 n n p hp
            cases hwv : want au c p
            · rw [hwv] at hhs
              have HWV := mkHid hwv
              have HPE := mkHid hpe
              clear hwv hpe
              go_wp2
              go_roundw
              case rel =>
                refine ⟨i + 1, by omega, by go_num, ?_, H5.out, HRB.out⟩
                rw [filt_succ, HK.out, HPE.out, HWV.out]
                rfl
              case measure => simp [intOf]; omega
            · rw [hwv] at hhs
              have hat : ls[K]? = some p := by
                have e0 := filt_at (fun x => want au c (pos n flip x)) i (by rw [hpe]; exact hwv) n hin
                rw [HK.out] at e0
                rw [H5.out.lse, List.filter_map, List.getElem?_map]
                show Option.map _ (List.filter (fun x => want au c (pos n flip x)) (List.range n))[K]? = _
                rw [e0, Option.map_some, hpe]
              obtain ⟨g, hae, hg, hgc⟩ := H5.out.pt K p hat
              have hkl : K < ls.length := (List.getElem?_eq_some_iff.1 hat).1
              have hkl' : (K : Int) < (ls.length : Int) := by omega
              have hKn := filt_le (fun x => want au c (pos n flip x)) i
              rw [HK.out] at hKn
              have hix32 := run_index32 a2 g ls.length c2 K hae hkl
              have hix31 := run_index31 A n n p hp
              have hg0 := H5.out.gr.nodes
              unfold nd at hgc
              have hneq := run_neq44 A p
              have HWV := mkHid hwv
              have HPE := mkHid hpe
              have HAE := mkHid hae
              clear hwv hpe hat hae
              go_wp2
              go_quiet (fail)
              go_wp2
              go_roundw
              case rel =>
                refine ⟨i + 1, by omega, by go_num, ?_, H5.out.keep (below_drewN (Below.refl _ _) _), HRB.out.keep rfl⟩
                rw [filt_succ, HK.out, HPE.out, HWV.out]
                go_num
              case measure => simp [intOf]; omega
    · obtain rfl : n = i := by omega
      have hm0 := h5.m0
      have hm1 := h5.m1
      have e : ls.length = K := HLS.out.trans hK
      rw [e] at hm1
      have H5 := mkHid h5
      clear hK h5 hrb e
      go_wp2
      go_ret
      exact ⟨rfl, H5.out.bel⟩
end Go.Proofs.Ybulkrsi
