/-
  Seat b0905a. The law's own matrix of paths.
-/
import Derived.Test.YbulkrsiT17
namespace Go.Proofs.Ybulkrsi
open Go.RowKit

/-- The matrix while row i is laid: the first x links of the row are seen to. -/
structure MI (n : Nat) (flip : Bool) (m : Nat → Bool) (au : Nat → List Nat) (R : Nat → Bool) (i x : Nat) : Prop where
  done : ∀ a k, a < i → k < n → (R (a * n + k) = true ↔ Pth au (pos n flip a) (pos n flip k))
  cur : ∀ k, k < n → i < n → (R (i * n + k) = true ↔ ∃ y, y < x ∧ m (i * n + y) = true ∧ (y = k ∨ Pth au (pos n flip y) (pos n flip k)))
  rest : ∀ a k, i < a → a < n → k < n → R (a * n + k) = false
/-- .. and link x is under way: the first z of its row are seen to. -/
structure MK (n : Nat) (flip : Bool) (m : Nat → Bool) (au : Nat → List Nat) (R : Nat → Bool) (i x z : Nat) : Prop where
  done : ∀ a k, a < i → k < n → (R (a * n + k) = true ↔ Pth au (pos n flip a) (pos n flip k))
  cur : ∀ k, k < n → (R (i * n + k) = true ↔ (∃ y, y < x ∧ m (i * n + y) = true ∧ (y = k ∨ Pth au (pos n flip y) (pos n flip k))) ∨ x = k ∨ (k < z ∧ Pth au (pos n flip x) (pos n flip k)))
  rest : ∀ a k, i < a → a < n → k < n → R (a * n + k) = false
section
variable {n : Nat} {flip : Bool} {m : Nat → Bool} {au : Nat → List Nat} {R : Nat → Bool} {i x z : Nat}
theorem MI.start : MI n flip m au (fun _ => false) 0 0 := ⟨fun a k h => by omega, fun k _ _ => by simp, fun _ _ _ _ _ => rfl⟩
theorem MI.skip (h : MI n flip m au R i x) (hm : m (i * n + x) = false) : MI n flip m au R i (x + 1) := by
  refine ⟨h.done, fun k hk hi => (h.cur k hk hi).trans ⟨fun ⟨y, h1, h2⟩ => ⟨y, by omega, h2⟩, fun ⟨y, h1, h2⟩ => ⟨y, ?_, h2⟩⟩, h.rest⟩
  by_cases e : y = x
  · subst e; rw [hm] at h2; simp at h2
  · omega
theorem MI.link (h : MI n flip m au R i x) (hi : i < n) (hx : x < n) : MK n flip m au (upd R (i * n + x) true) i x 0 := by
  have ho : ∀ a k, a ≠ i → k < n → upd R (i * n + x) true (a * n + k) = R (a * n + k) := fun a k ha hk => upd_other _ _ (fun e => ha (flat_inj hk hx e).1)
  refine ⟨fun a k ha hk => by rw [ho a k (by omega) hk]; exact h.done a k ha hk, fun k hk => ?_, fun a k ha han hk => by rw [ho a k (by omega) hk]; exact h.rest a k ha han hk⟩
  by_cases e : k = x
  · subst e
    rw [upd_same]
    simp
  · rw [upd_other _ _ (fun e' => e (flat_inj hk hx e').2), h.cur k hk hi]
    constructor
    · exact fun h1 => .inl h1
    · rintro (h1 | h1 | h1)
      · exact h1
      · exact absurd h1.symm e
      · omega
theorem MK.skip (h : MK n flip m au R i x z) (hx : x < i) (hz : z < n) (hr : R (x * n + z) = false) : MK n flip m au R i x (z + 1) := by
  refine ⟨h.done, fun k hk => (h.cur k hk).trans ?_, h.rest⟩
  refine or_congr Iff.rfl (or_congr Iff.rfl ⟨fun ⟨h1, h2⟩ => ⟨by omega, h2⟩, fun ⟨h1, h2⟩ => ⟨?_, h2⟩⟩)
  by_cases e : k = z
  · subst e
    rw [← h.done x k hx hk, hr] at h2
    simp at h2
  · omega
theorem MK.set (h : MK n flip m au R i x z) (hx : x < i) (hz : z < n) (hr : R (x * n + z) = true) : MK n flip m au (upd R (i * n + z) true) i x (z + 1) := by
  have ho : ∀ a k, a ≠ i → k < n → upd R (i * n + z) true (a * n + k) = R (a * n + k) := fun a k ha hk => upd_other _ _ (fun e => ha (flat_inj hk hz e).1)
  refine ⟨fun a k ha hk => by rw [ho a k (by omega) hk]; exact h.done a k ha hk, fun k hk => ?_, fun a k ha han hk => by rw [ho a k (by omega) hk]; exact h.rest a k ha han hk⟩
  have hp := (h.done x z hx hz).1 hr
  by_cases e : k = z
  · subst e
    rw [upd_same]
    simp only [true_iff]
    exact .inr (.inr ⟨by omega, hp⟩)
  · rw [upd_other _ _ (fun e' => e (flat_inj hk hz e').2), h.cur k hk]
    refine or_congr Iff.rfl (or_congr Iff.rfl ⟨fun ⟨h1, h2⟩ => ⟨by omega, h2⟩, fun ⟨h1, h2⟩ => ⟨by omega, h2⟩⟩)
theorem MK.end_ (h : MK n flip m au R i x n) (hm : m (i * n + x) = true) : MI n flip m au R i (x + 1) := by
  refine ⟨h.done, fun k hk _ => (h.cur k hk).trans ⟨?_, ?_⟩, h.rest⟩
  · rintro (⟨y, h1, h2⟩ | rfl | ⟨_, h2⟩)
    · exact ⟨y, by omega, h2⟩
    · exact ⟨x, by omega, hm, .inl rfl⟩
    · exact ⟨x, by omega, hm, .inr h2⟩
  · rintro ⟨y, h1, h2, h3⟩
    by_cases e : y = x
    · subst e
      rcases h3 with h3 | h3
      · exact .inr (.inl h3)
      · exact .inr (.inr ⟨hk, h3⟩)
    · exact .inl ⟨y, by omega, h2, h3⟩
theorem MI.next (h : MI n flip m au R i i) (hi : i < n) (hlt : ∀ p, p < n → ∀ q, q ∈ au p → q < n) (hrel : ∀ hi lo, hi < n → lo < n → (pos n flip lo ∈ au (pos n flip hi) ↔ m (hi * n + lo) = true)) (hlow : ∀ hi lo, hi < n → lo < n → m (hi * n + lo) = true → lo < hi) : MI n flip m au R (i + 1) 0 := by
  refine ⟨fun a k ha hk => ?_, fun k hk hi1 => ?_, fun a k ha => h.rest a k (by omega)⟩
  · by_cases e : a = i
    · subst e
      rw [h.cur k hk hi]
      constructor
      · rintro ⟨y, h1, h2, h3⟩
        have hmem := (hrel a y hi (by omega)).2 h2
        rcases h3 with rfl | h3
        · exact .one hmem
        · exact .step hmem h3
      · intro hp
        obtain ⟨q, hq, h3⟩ := hp.first
        have hqn := hlt _ (pos_lt hi) q hq
        have hq' : pos n flip (pos n flip q) ∈ au (pos n flip a) := by rw [pos_pos hqn]; exact hq
        have hm := (hrel a (pos n flip q) hi (pos_lt hqn)).1 hq'
        refine ⟨pos n flip q, hlow a _ hi (pos_lt hqn) hm, hm, ?_⟩
        rcases h3 with h3 | h3
        · exact .inl (by rw [h3, pos_pos hk])
        · exact .inr (by rw [pos_pos hqn]; exact h3)
    · exact h.done a k (by omega) hk
  · rw [h.rest (i + 1) k (by omega) hi1 hk]
    simp
end

set_option maxHeartbeats 8000000 in
set_option maxRecDepth 1000000 in
theorem t15 {n B G A J N Hc I M H2 c2 : Nat} {flip : Bool} {m hc ic hs : Nat → Bool} {au : Nat → List Nat} {c ls : List Nat} {a2 : Option Addr} {w wr : World} {u0 u1 u2 u4 u5 u6 u7 u8 u11 u13 u14 u15 u16 u17 u18 u19 u20 u21 u23 u24 u25 u26 u28 u29 u30 u31 u32 u33 u34 u35 u36 u37 u38 u39 u40 u41 u42 u43 u44 u45 u46 u47 u48 u49 u50 u51 u52 u53 u54 u55 u56 u57 u58 u59 u60 u61 u62 u63 u64 u65 u66 u67 u68 u69 u70 u71 u72 u73 u74 u75 u76 u77 u78 u79 u80 u81 u82 u83 u84 u85 u86 u87 u88 u89 u90 u91 u92 u93 u94 u95 u96 u97 u98 u99 u100 u101 u102 u103 u104 u105 u106 u107 u108 u109 u110 u111 u112 u113 u114 u115 u116 u117 u118 u119 u120 u121 u122 u123 u124 u125 u126 u127 u128 u129 u130 u131 u132 u133 u134 u135 u136 u137 u138 u139 u140 u141 u142 u143 u144 u145 u146 u147 u148 u149 u150 u151 u152 u153 u154 u155 u156 u157 u158 u159 u160 u161 u162 u163 u164 u165 u166 u167 u168 u169 u170 u171 u172 u173 u174 u175 u176 u177 u178 u179 u180 u181 u182 u183 u184 u185 u186 u187 u188 u189 u190 u191 u192 u193 u194 u195 u196 u197 u198 u199 u200 u201 u202 u203 u204 u205 u206 u207 u208 u209 u210 u211 u212 u213 u214 u215 u216 u217 u218 u219 u220 u221 u222 u223 u224 u225 u226 u227 u228 u229 u230 u231 u232 u233 u234 u235 u236 u237 u238 u239 u240 u241 u242 u243 u244 u245 u246 u247 u248 u249 u250 u251 u252 u253 u254 u255 u256 u257 u258 u259 u260 u261 u262 u263 u264 u265 u266 u267 u268 u269 u270 u271 u272 u273 u274 u275 u276 u277 u278 u279 u280 u281 u282 u283 u284 u285 u286 u287 u288 u289 u290 u291 u292 u293 u294 u295 u296 u297 u298 u299 u300 u301 u302 u303 u304 u305 u306 u307 u308 u309 u310 u311 u312 u313 u314 u315 u316 u317 u318 u319 u320 u321 u322 u323 u324 u325 u326 u327 u328 u329 u330 u331 u332 u333 u334 u335 u336 u337 u338 u339 u340 u341 u342 u343 u344 u345 u346 u347 u348 u349 u350 u351 u352 u353 u354 u355 u356 u357 u358 u359 u360 u361 u362 u363 u364 u365 u366 u367 u368 u369 u370 : Value}
    (hn : n ≤ 255) (h5 : S5 w B n G A J N Hc I M H2 flip m hc ic hs au c ls a2 c2 wr) :
    Code.wp Yba.prog (tl 15) (bodyPost Yba.prog Yba.f5 (Fin w)) ⟨#[u0, u1, u2, .bool flip, u4, u5, u6, u7, u8, .int .i64 n, .pointer (some ⟨G, 0, none⟩), u11, .slice (some ⟨J, 0, none⟩) (n * n) (n * n), u13, u14, u15, u16, u17, u18, u19, u20, u21, .slice (some ⟨I, 0, none⟩) n n, u23, u24, u25, u26, .pointer (some ⟨M, 0, none⟩), u28, u29, u30, u31, u32, u33, u34, u35, u36, u37, u38, u39, u40, u41, u42, u43, u44, u45, u46, u47, u48, u49, u50, u51, u52, u53, u54, u55, u56, u57, u58, u59, u60, u61, u62, u63, u64, u65, u66, u67, u68, u69, u70, u71, u72, u73, u74, u75, u76, u77, u78, u79, u80, u81, u82, u83, u84, u85, u86, u87, u88, u89, u90, u91, u92, u93, u94, u95, u96, u97, u98, u99, u100, u101, u102, u103, u104, u105, u106, u107, u108, u109, u110, u111, u112, u113, u114, u115, u116, u117, u118, u119, u120, u121, u122, u123, u124, u125, u126, u127, u128, u129, u130, u131, u132, u133, u134, u135, u136, u137, u138, u139, u140, u141, u142, u143, u144, u145, u146, u147, u148, u149, u150, u151, u152, u153, u154, u155, u156, u157, u158, u159, u160, u161, u162, u163, u164, u165, u166, u167, u168, u169, u170, u171, u172, u173, u174, u175, u176, u177, u178, u179, u180, u181, u182, u183, u184, u185, u186, u187, u188, u189, u190, u191, u192, u193, u194, u195, u196, u197, u198, u199, u200, u201, u202, u203, u204, u205, u206, u207, u208, u209, u210, u211, u212, u213, u214, u215, u216, u217, u218, u219, u220, u221, u222, u223, u224, u225, u226, u227, u228, u229, u230, u231, u232, u233, u234, u235, u236, u237, u238, u239, u240, u241, u242, u243, u244, u245, u246, u247, u248, u249, u250, u251, u252, u253, u254, u255, u256, u257, u258, u259, u260, u261, u262, u263, u264, u265, u266, u267, u268, u269, u270, u271, u272, u273, u274, u275, u276, u277, u278, u279, u280, u281, u282, u283, u284, u285, u286, u287, u288, u289, u290, u291, u292, u293, u294, u295, u296, u297, u298, u299, u300, u301, u302, u303, u304, u305, u306, u307, u308, u309, u310, u311, u312, u313, u314, u315, u316, u317, u318, u319, u320, u321, u322, u323, u324, u325, u326, u327, u328, u329, u330, u331, u332, u333, u334, u335, u336, u337, u338, u339, u340, u341, u342, u343, u344, u345, u346, u347, u348, u349, u350, u351, u352, u353, u354, u355, u356, u357, u358, u359, u360, u361, u362, u363, u364, u365, u366, u367, u368, u369, u370], []⟩ wr := by
  conv => arg 2; whnf
  have hnn : n * n ≤ 255 * 255 := Nat.mul_le_mul hn hn
  have hnn1 : (0 : Int) ≤ (n : Int) * (n : Int) ∧ (n : Int) * (n : Int) ≤ 65025 := by rw [← Int.natCast_mul]; omega
  have hm3 := run_madeB2 n hn
  have H5 := mkHid (h5.keep (Below.mono ((Below.refl _ _).alloc (Nat.le_refl _) (.cells (madeB (n * n)) 4)) h5.hB))
  have HR := mkHid (bools_new (n * n) wr)
  have hBr : B ≤ wr.heap.size := h5.hB
  have HLT := mkHid h5.gr.nds.lt
  have HREL := mkHid h5.rel
  have HLOW := mkHid h5.low
  obtain ⟨RB, hRB⟩ : ∃ RB, wr.heap.size = RB := ⟨_, rfl⟩
  rw [hRB] at HR hBr
  clear h5
  go_upto_region 49 with fail
  rename_i K16 h16 K1 h1
  have H16 := mkHid h16
  clear h16
  clear hm3
  go_wp2
  go_loopw [30] (fun ii wx => ∃ (i : Nat) (R : Nat → Bool), i ≤ n ∧ ii = .int .i64 i ∧ S5 w B n G A J N Hc I M H2 flip m hc ic hs au c ls a2 c2 wx ∧ Bools wx RB (n * n) R ∧ MI n flip m au R i 0) (fun ii _ => n - (intOf ii).toNat)
  case atStart => exact ⟨0, _, Nat.zero_le _, rfl, H5.out, HR.out, MI.start⟩
  case round =>
    clear H5 HR hRB
    obtain ⟨i, R, hi, rfl, h5, hrb, hmi⟩ := hrel
    have H5 := mkHid h5
    have HR := mkHid hrb
    have HMI := mkHid hmi
    clear h5 hrb hmi
    by_cases hin : i < n
    · have hin' : (i : Int) < (n : Int) := by omega
      have hb2 := flat_bound hn hin
      go_wp2
      go_loopw [31] (fun xx wx => ∃ (x : Nat) (R : Nat → Bool), x ≤ i ∧ xx = .int .i64 x ∧ S5 w B n G A J N Hc I M H2 flip m hc ic hs au c ls a2 c2 wx ∧ Bools wx RB (n * n) R ∧ MI n flip m au R i x) (fun xx _ => i - (intOf xx).toNat)
      case atStart => exact ⟨0, _, Nat.zero_le _, rfl, H5.out, HR.out, HMI.out⟩
      case round =>
        clear H5 HR HMI
        obtain ⟨x, R, hx, rfl, h5, hrb, hmi⟩ := hrel
        have H5 := mkHid h5
        have HR := mkHid hrb
        have HMI := mkHid hmi
        clear h5 hrb hmi
        by_cases hxi : x < i
        · have hxi' : (x : Int) < (i : Int) := by omega
          have hxn : x < n := by omega
          have hb1 := flat_bound hn hxn
          have hf1 := run_flat J n i x hin hxn
          have hmc := H5.out.adj.cell _ (flat_lt hin hxn)
          cases hm : m (i * n + x)
          · rw [hm] at hmc
            have HM := mkHid hm
            clear hm
            go_wp2
            go_roundw
            case rel => exact ⟨x + 1, R, by omega, by go_num, H5.out, HR.out, HMI.out.skip HM.out⟩
            case measure => simp [intOf]; omega
          · rw [hm] at hmc
            have HM := mkHid hm
            have hf2 := run_flat RB n i x hin hxn
            have hrc := HR.out.cell _ (flat_lt hin hxn)
            have hrf := HR.out.free (i * n + x)
            have HR1 := mkHid (HR.out.set (i * n + x) true)
            have H51 := mkHid (H5.out.keep (show Below B wr (wr.setCell ⟨RB, i * n + x, none⟩ (.bool true)) from (Below.refl _ _).setCell hBr _))
            have HMK := mkHid (HMI.out.link hin hxn)
            clear hm HR H5 HMI
            go_wp2
            go_loopw [32] (fun zz wx => ∃ (z : Nat) (R : Nat → Bool), z ≤ n ∧ zz = .int .i64 z ∧ S5 w B n G A J N Hc I M H2 flip m hc ic hs au c ls a2 c2 wx ∧ Bools wx RB (n * n) R ∧ MK n flip m au R i x z) (fun zz _ => n - (intOf zz).toNat)
            case atStart => exact ⟨0, _, Nat.zero_le _, rfl, H51.out, HR1.out, HMK.out⟩
            case round =>
              clear H51 HR1 HMK hf1 hf2 hrc hrf hmc
              obtain ⟨z, R, hz, rfl, h5, hrb, hmk⟩ := hrel
              have H5 := mkHid h5
              have HR := mkHid hrb
              have HMK := mkHid hmk
              clear h5 hrb hmk
              by_cases hzn : z < n
              · have hzn' : (z : Int) < (n : Int) := by omega
                have hf1 := run_flat RB n x z hxn hzn
                have hc1 := HR.out.cell _ (flat_lt hxn hzn)
                cases hr : R (x * n + z)
                · rw [hr] at hc1
                  have HRZ := mkHid hr
                  clear hr
                  go_wp2
                  go_roundw
                  case rel => exact ⟨z + 1, R, by omega, by go_num, H5.out, HR.out, HMK.out.skip hxi hzn HRZ.out⟩
                  case measure => simp [intOf]; omega
                · rw [hr] at hc1
                  have HRZ := mkHid hr
                  have hf2 := run_flat RB n i z hin hzn
                  have hc2 := HR.out.cell _ (flat_lt hin hzn)
                  have hrf := HR.out.free (i * n + z)
                  clear hr
                  go_wp2
                  go_roundw
                  case rel => exact ⟨z + 1, _, by omega, by go_num, H5.out.keep (show Below B wr (wr.setCell ⟨RB, i * n + z, none⟩ (.bool true)) from (Below.refl _ _).setCell hBr _), HR.out.set (i * n + z) true, HMK.out.set hxi hzn HRZ.out⟩
                  case measure => simp [intOf]; omega
              · obtain rfl : n = z := by omega
                go_wp2
                go_roundw
                case rel => exact ⟨x + 1, R, by omega, by go_num, H5.out, HR.out, HMK.out.end_ HM.out⟩
                case measure => simp [intOf]; omega
        · obtain rfl : i = x := by omega
          go_wp2
          go_roundw
          case rel => exact ⟨i + 1, R, by omega, by go_num, H5.out, HR.out, HMI.out.next hin HLT.out HREL.out HLOW.out⟩
          case measure => simp [intOf]; omega
    · obtain rfl : n = i := by omega
      go_wp2
      refine H16.out _ _ ?_
      exact t17 hn H5.out HR.out (fun a k ha hk => HMI.out.done a k ha hk)
end Go.Proofs.Ybulkrsi
