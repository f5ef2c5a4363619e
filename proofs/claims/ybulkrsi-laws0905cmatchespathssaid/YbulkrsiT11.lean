/-
  Seat b0905a. The law's call of conflictedSubgraph, and the check that it left its set alone.
-/
import Derived.Test.YbulkrsiT16
namespace Go.Proofs.Ybulkrsi
open Go.RowKit

theorem Gr.mono {w : World} {B B' G A n : Nat} {au : Nat → List Nat} {od : Nat → Nat} (h : Gr w B G A n au od) (hB : B ≤ B') : Gr w B' G A n au od := by
  obtain ⟨O, c, hO, h1, h2⟩ := h.order
  exact ⟨Nat.lt_of_lt_of_le h.hG hB, h.nds.mono hB, h.nodes, O, c, Nat.lt_of_lt_of_le hO hB, h1, h2⟩

theorem S5.make {w wr w1 : World} {B n G A J N Hc I H2 : Nat} {flip : Bool} {m hc ic hs : Nat → Bool} {au : Nat → List Nat} {c ls : List Nat} {v : Value} {a2 : Option Addr} {c2 : Nat}
    (h3 : S3 w B n G A J flip m au wr) (h4 : S4 B n N Hc I A flip v hc ic c wr) (hb : Below wr.heap.size wr w1) (hH : Bools w1 H2 n hs) (hrow : w1.ownsRow wr.heap.size 44 1 (.slice a2 ls.length c2) ls.length (ls.map (nd A)))
    (hwnt : ∀ p, p < n → hs p = want au c p) (hls : ls = ((List.range n).map (pos n flip)).filter (want au c)) :
    S5 w (w1.heap.size + 1) n G A J N Hc I w1.heap.size H2 flip m hc ic hs au c ls a2 c2 (w1.alloc (.cells #[.slice (some ⟨H2, 0, none⟩) n n, .slice a2 ls.length c2] 46)) := by
  have hBr := h3.hB
  have hs1 := hb.size
  have h3' := (h3.keep (hb.mono hBr)).keep ((Below.refl B w1).alloc (by omega) (.cells #[.slice (some ⟨H2, 0, none⟩) n n, .slice a2 ls.length c2] 46))
  have hN := h4.st.at_.lt
  have hHc := h4.st.hold.lt
  have hI := h4.inc.lt
  have hAN : At w1 N (.cells #[.slice (some ⟨Hc, 0, none⟩) n n, v] 46 (0, 0)) := h4.st.at_.below hb hN
  have hnew := At.new w1 (.cells #[.slice (some ⟨H2, 0, none⟩) n n, .slice a2 ls.length c2] 46)
  refine ⟨h3'.gr.mono (by omega), h3'.adj, by have := h3.hJ; omega, by simp, by have := h3.hw; omega, h3'.bel, h3.ord, h3.rel, h3.low, ((hAN.alloc _).cell 0).trans rfl, by omega, (h4.st.hold.below hb hHc).keep (Below.heap_alloc _ _ _ (by omega)), by omega,
    (h4.inc.below hb hI).keep (Below.heap_alloc _ _ _ (by omega)), by omega, (hnew.cell 0).trans rfl, (hnew.cell 1).trans rfl, by omega, hH.keep (Below.heap_alloc _ _ _ hH.lt), by have := hH.lt; omega, fun j q hj => ?_, h4.lk, h4.mem, h4.lt, hwnt, hls⟩
  rcases hrow.2 with ⟨e0, e1⟩ | ⟨g, cap, cur, e0, hg, hgg, _⟩
  · have : j < ls.length := (List.getElem?_eq_some_iff.1 hj).1
    omega
  · cases e0
    have hg1 : g < w1.heap.size := lt_of_block hgg
    have hc1 := hrow.cells (g := g) rfl j (nd A q) (by rw [List.getElem?_map, hj]; rfl)
    rw [Addr.add_lit] at hc1
    refine ⟨g, rfl, by omega, ?_⟩
    have := (((Below.refl w1.heap.size w1).alloc (Nat.le_refl _) (.cells #[.slice (some ⟨H2, 0, none⟩) n n, .slice (some ⟨g, 0, none⟩) ls.length c2] 46)).cell (p := ⟨g, j, none⟩) hg1)
    exact this.trans (by simpa using hc1)

set_option maxHeartbeats 8000000 in
set_option maxRecDepth 1000000 in
theorem t11 {n B G A J N Hc I : Nat} {flip : Bool} {m hc ic : Nat → Bool} {au : Nat → List Nat} {c : List Nat} {v : Value} {w wr : World} {u0 u1 u2 u4 u5 u6 u7 u8 u11 u13 u14 u15 u16 u17 u18 u19 u20 u23 u24 u25 u26 u27 u28 u29 u30 u31 u32 u33 u34 u35 u36 u37 u38 u39 u40 u41 u42 u43 u44 u45 u46 u47 u48 u49 u50 u51 u52 u53 u54 u55 u56 u57 u58 u59 u60 u61 u62 u63 u64 u65 u66 u67 u68 u69 u70 u71 u72 u73 u74 u75 u76 u77 u78 u79 u80 u81 u82 u83 u84 u85 u86 u87 u88 u89 u90 u91 u92 u93 u94 u95 u96 u97 u98 u99 u100 u101 u102 u103 u104 u105 u106 u107 u108 u109 u110 u111 u112 u113 u114 u115 u116 u117 u118 u119 u120 u121 u122 u123 u124 u125 u126 u127 u128 u129 u130 u131 u132 u133 u134 u135 u136 u137 u138 u139 u140 u141 u142 u143 u144 u145 u146 u147 u148 u149 u150 u151 u152 u153 u154 u155 u156 u157 u158 u159 u160 u161 u162 u163 u164 u165 u166 u167 u168 u169 u170 u171 u172 u173 u174 u175 u176 u177 u178 u179 u180 u181 u182 u183 u184 u185 u186 u187 u188 u189 u190 u191 u192 u193 u194 u195 u196 u197 u198 u199 u200 u201 u202 u203 u204 u205 u206 u207 u208 u209 u210 u211 u212 u213 u214 u215 u216 u217 u218 u219 u220 u221 u222 u223 u224 u225 u226 u227 u228 u229 u230 u231 u232 u233 u234 u235 u236 u237 u238 u239 u240 u241 u242 u243 u244 u245 u246 u247 u248 u249 u250 u251 u252 u253 u254 u255 u256 u257 u258 u259 u260 u261 u262 u263 u264 u265 u266 u267 u268 u269 u270 u271 u272 u273 u274 u275 u276 u277 u278 u279 u280 u281 u282 u283 u284 u285 u286 u287 u288 u289 u290 u291 u292 u293 u294 u295 u296 u297 u298 u299 u300 u301 u302 u303 u304 u305 u306 u307 u308 u309 u310 u311 u312 u313 u314 u315 u316 u317 u318 u319 u320 u321 u322 u323 u324 u325 u326 u327 u328 u329 u330 u331 u332 u333 u334 u335 u336 u337 u338 u339 u340 u341 u342 u343 u344 u345 u346 u347 u348 u349 u350 u351 u352 u353 u354 u355 u356 u357 u358 u359 u360 u361 u362 u363 u364 u365 u366 u367 u368 u369 u370 : Value}
    (hn : n ≤ 255) (h3 : S3 w B n G A J flip m au wr) (h4 : S4 B n N Hc I A flip v hc ic c wr) :
    Code.wp Yba.prog (tl 11) (bodyPost Yba.prog Yba.f5 (Fin w)) ⟨#[u0, u1, u2, .bool flip, u4, u5, u6, u7, u8, .int .i64 n, .pointer (some ⟨G, 0, none⟩), u11, .slice (some ⟨J, 0, none⟩) (n * n) (n * n), u13, u14, u15, u16, u17, u18, u19, u20, .pointer (some ⟨N, 0, none⟩), .slice (some ⟨I, 0, none⟩) n n, u23, u24, u25, u26, u27, u28, u29, u30, u31, u32, u33, u34, u35, u36, u37, u38, u39, u40, u41, u42, u43, u44, u45, u46, u47, u48, u49, u50, u51, u52, u53, u54, u55, u56, u57, u58, u59, u60, u61, u62, u63, u64, u65, u66, u67, u68, u69, u70, u71, u72, u73, u74, u75, u76, u77, u78, u79, u80, u81, u82, u83, u84, u85, u86, u87, u88, u89, u90, u91, u92, u93, u94, u95, u96, u97, u98, u99, u100, u101, u102, u103, u104, u105, u106, u107, u108, u109, u110, u111, u112, u113, u114, u115, u116, u117, u118, u119, u120, u121, u122, u123, u124, u125, u126, u127, u128, u129, u130, u131, u132, u133, u134, u135, u136, u137, u138, u139, u140, u141, u142, u143, u144, u145, u146, u147, u148, u149, u150, u151, u152, u153, u154, u155, u156, u157, u158, u159, u160, u161, u162, u163, u164, u165, u166, u167, u168, u169, u170, u171, u172, u173, u174, u175, u176, u177, u178, u179, u180, u181, u182, u183, u184, u185, u186, u187, u188, u189, u190, u191, u192, u193, u194, u195, u196, u197, u198, u199, u200, u201, u202, u203, u204, u205, u206, u207, u208, u209, u210, u211, u212, u213, u214, u215, u216, u217, u218, u219, u220, u221, u222, u223, u224, u225, u226, u227, u228, u229, u230, u231, u232, u233, u234, u235, u236, u237, u238, u239, u240, u241, u242, u243, u244, u245, u246, u247, u248, u249, u250, u251, u252, u253, u254, u255, u256, u257, u258, u259, u260, u261, u262, u263, u264, u265, u266, u267, u268, u269, u270, u271, u272, u273, u274, u275, u276, u277, u278, u279, u280, u281, u282, u283, u284, u285, u286, u287, u288, u289, u290, u291, u292, u293, u294, u295, u296, u297, u298, u299, u300, u301, u302, u303, u304, u305, u306, u307, u308, u309, u310, u311, u312, u313, u314, u315, u316, u317, u318, u319, u320, u321, u322, u323, u324, u325, u326, u327, u328, u329, u330, u331, u332, u333, u334, u335, u336, u337, u338, u339, u340, u341, u342, u343, u344, u345, u346, u347, u348, u349, u350, u351, u352, u353, u354, u355, u356, u357, u358, u359, u360, u361, u362, u363, u364, u365, u366, u367, u368, u369, u370], []⟩ wr := by
  conv => arg 2; whnf
  obtain ⟨va, vc, rfl⟩ := own_form h4.st.row
  have hn0 : wr.cell? ⟨N, 0, none⟩ = some (.slice (some ⟨Hc, 0, none⟩) n n) := (h4.st.at_.cell 0).trans rfl
  have hn1 : wr.cell? ⟨N, 1, none⟩ = some (.slice va c.length vc) := (h4.st.at_.cell 1).trans rfl
  have hNr := h4.st.at_.lt
  have hcn := h4.cnt
  have H3 := mkHid h3
  have H4 := mkHid h4
  clear h3 h4
  go_wp2_with fail
  refine (sub_any B G A n Hc au (pos n flip) c hc (.slice va c.length vc) wr hn (by omega) H4.out.lt H4.out.mem H3.out.ord (H3.out.gr.mono H3.out.hB) H4.out.st.hold H4.out.st.row).mono ?_
  rintro e w1 ⟨H2, v2, hs, ls, rfl, hHs, hrow2, hwnt, hls, hbel, hH2⟩
  obtain ⟨a2, c2, rfl⟩ := own_form hrow2
  have h5 := S5.make H3.out H4.out hbel hHs hrow2 hwnt hls
  have hn1' : w1.cell? ⟨N, 1, none⟩ = some (.slice va c.length vc) := (hbel.cell (p := ⟨N, 1, none⟩) hNr).trans hn1
  have hN1 : N < w1.heap.size := Nat.lt_of_lt_of_le hNr hbel.size
  have H5 := mkHid h5
  clear h5 hHs hrow2 hwnt hls hbel hH2 hn0 hn1 H3 H4 hNr hcn
  go_upto_region 43 with fail
  rename_i K15 h15 K1 h1
  have H15 := mkHid h15
  clear h15
  go_wp2
  go_loopw [28] (fun ii wx => ∃ i : Nat, i ≤ n ∧ ii = .int .i64 i ∧ S5 w (w1.heap.size + 1) n G A J N Hc I w1.heap.size H2 flip m hc ic hs au c ls a2 c2 wx) (fun ii _ => n - (intOf ii).toNat)
  case atStart => exact ⟨0, Nat.zero_le _, rfl, H5.out⟩
  case round =>
    clear H5 hn1'
    obtain ⟨i, hi, rfl, h5⟩ := hrel
    have H5 := mkHid h5
    by_cases hin : i < n
    · have hin' : (i : Int) < (n : Int) := by omega
      have hn0 := h5.n0
      have hp := pos_lt (flip := flip) hin
      have hcc := h5.hcb.cell _ hp
      have hii := h5.inc.cell i hin
      rw [h5.lk i hin] at hcc
      have hpos := fun j => pos_any n i flip hn hin (wr.drewN j)
      have HPO := mkHid hpos
      have hx1 := run_index41 Hc n n (pos n flip i) hp
      have hx2 := run_index41 I n n i hin
      clear h5 hpos
      go_wp2_with fail
      go_quiet ((go_at_call 11; exact Calls.quiet_of_same (HPO.out _)))
      go_wp2
      go_roundw
      case rel => exact ⟨i + 1, by omega, by go_num, H5.out.keep (below_drewN (Below.refl _ _) _)⟩
      case measure => simp [intOf]; omega
    · obtain rfl : n = i := by omega
      clear h5
      go_wp2
      refine H15.out _ _ ?_
      exact t15 hn H5.out
end Go.Proofs.Ybulkrsi
