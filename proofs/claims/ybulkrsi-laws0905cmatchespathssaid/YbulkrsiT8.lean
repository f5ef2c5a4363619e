/-
  Seat b0905a. The law's conflicted set.
-/
import Derived.Test.YbulkrsiT11
namespace Go.Proofs.Ybulkrsi
open Go.RowKit

theorem cf_none : ∀ n, cf (fun _ => false) n = n
  | 0 => rfl
  | n + 1 => by rw [cf, cf_none n]; rfl

theorem S4.start {B n N Hc I A : Nat} {flip : Bool} {wx : World} (hN : B ≤ N) (hH : B ≤ Hc) (hI : B ≤ I) (hne : I ≠ Hc) (hat : At wx N (.cells #[.slice (some ⟨Hc, 0, none⟩) n n, .slice none 0 0] 46 (0, 0))) (hh : Bools wx Hc n (fun _ => false)) (hi : Bools wx I n (fun _ => false)) :
    S4 B n N Hc I A flip (.slice none 0 0) (fun _ => false) (fun _ => false) [] wx :=
  ⟨⟨hN, hH, hat, hh, World.ownsRow_nil _ _ _ _⟩, hi, hI, hne, fun g hg => by simp [Value.ownBlock] at hg, fun _ _ => rfl, fun x _ => by simp, fun x hx => by simp at hx, by rw [cf_none]; rfl⟩

theorem S4.iN {B n N Hc I A : Nat} {flip : Bool} {v : Value} {hc ic : Nat → Bool} {l : List Nat} {wx : World} (h : S4 B n N Hc I A flip v hc ic l wx) : I ≠ N := by
  obtain ⟨C, hC, _⟩ := h.inc
  exact Ne.symm (At.ne h.st.at_ hC (by decide))
/-- The store to inC: the set stands. -/
theorem S4.stored {B n N Hc I A : Nat} {flip : Bool} {v : Value} {hc ic : Nat → Bool} {l : List Nat} {wx : World} (h : S4 B n N Hc I A flip v hc ic l wx) (a : Nat) : SetAt (wx.setCell ⟨I, a, none⟩ (.bool true)) B N Hc A n v hc l := by
  have h1 := h.iN
  refine h.st.keep (fun b hb => heap_setCell_other _ _ _ _ ?_)
  rcases hb with rfl | rfl | hb
  · exact Ne.symm h1
  · exact Ne.symm h.iH
  · exact h.ig b hb
theorem S4.old {B n N Hc I A : Nat} {flip : Bool} {v : Value} {hc ic : Nat → Bool} {l : List Nat} {wx : World} (h : S4 B n N Hc I A flip v hc ic l wx) (a : Nat) (ha : a < n) (hh : hc (pos n flip a) = true) (k : Nat) : S4 B n N Hc I A flip v hc (upd ic a true) l ((wx.setCell ⟨I, a, none⟩ (.bool true)).drewN k) := by
  refine ⟨(h.stored a).keep (fun _ _ => rfl), (h.inc.set a true).keep rfl, h.hI, h.iH, h.ig, fun x hx => ?_, h.mem, h.lt, h.cnt⟩
  by_cases e : x = a
  · subst e; rw [upd_same, hh]
  · rw [upd_other _ _ e]; exact h.lk x hx
theorem S4.new {B n N Hc I A : Nat} {flip : Bool} {v v' : Value} {hc ic : Nat → Bool} {l : List Nat} {wx wy wz : World} (h : S4 B n N Hc I A flip v hc ic l wx) (a : Nat) (ha : a < n) (hh : hc (pos n flip a) = false) (hwy : wy.heap = (wx.setCell ⟨I, a, none⟩ (.bool true)).heap)
    (hst : SetAt wz B N Hc A n v' (upd hc (pos n flip a) true) (l ++ [pos n flip a])) (hfr : Fr (fun b => b = N ∨ b = Hc ∨ v.ownBlock = some b) wy wz) (hv : v'.ownBlock = v.ownBlock ∨ ∃ g, v'.ownBlock = some g ∧ wy.heap.size ≤ g) :
    S4 B n N Hc I A flip v' (upd hc (pos n flip a) true) (upd ic a true) (l ++ [pos n flip a]) wz := by
  have h1 := h.iN
  have hp := pos_lt (flip := flip) ha
  have hIs := (h.inc.set a true)
  have hIl : I < wy.heap.size := by rw [hwy]; exact hIs.lt
  refine ⟨hst, hIs.keep ?_, h.hI, h.iH, fun g hg e => ?_, fun x hx => ?_, fun x hx => ?_, fun x hx => ?_, ?_⟩
  · rw [hfr.block I hIl (by rintro (e | e | e); exact h1 e; exact h.iH e; exact h.ig I e rfl), hwy]
  · subst e
    rcases hv with h0 | ⟨g', h0, hge⟩
    · exact h.ig g (h0 ▸ hg) rfl
    · rw [hg] at h0; cases h0; omega
  · by_cases e : x = a
    · subst e; rw [upd_same, upd_same]
    · rw [upd_other _ _ e, upd_other _ _ (fun e' => e (pos_inj hx ha e'))]; exact h.lk x hx
  · by_cases e : x = pos n flip a
    · rw [e, upd_same]; simp
    · rw [upd_other _ _ e, h.mem x hx]; simp [e]
  · rcases List.mem_append.1 hx with h2 | h2
    · exact h.lt x h2
    · have : x = pos n flip a := by simpa using h2
      omega
  · have := cf_upd hc (pos n flip a) hh n hp
    have := h.cnt
    simp
    omega
theorem S4.below {B n N Hc I A : Nat} {flip : Bool} {v : Value} {hc ic : Nat → Bool} {l : List Nat} {wx wy wz : World} (h : S4 B n N Hc I A flip v hc ic l wx) (hfr : Fr (fun b => b = N ∨ b = Hc ∨ v.ownBlock = some b) wy wz) (hB : B ≤ wy.heap.size) : Below B wy wz :=
  hfr.below hB (fun b hb hx => by
    have h1 := h.st.hN
    have h2 := h.st.hH
    rcases hx with rfl | rfl | hx
    · omega
    · omega
    · have := (h.st.rowNe b hx).2.2.1; omega)

set_option maxHeartbeats 8000000 in
set_option maxRecDepth 1000000 in
theorem t8 {n B G A J cl cc : Nat} {flip : Bool} {m : Nat → Bool} {au : Nat → List Nat} {ca : Option Addr} {f : Nat → Nat} {w wr : World} {u0 u1 u4 u5 u6 u7 u8 u11 u13 u14 u15 u16 u17 u18 u19 u20 u21 u22 u23 u24 u25 u26 u27 u28 u29 u30 u31 u32 u33 u34 u35 u36 u37 u38 u39 u40 u41 u42 u43 u44 u45 u46 u47 u48 u49 u50 u51 u52 u53 u54 u55 u56 u57 u58 u59 u60 u61 u62 u63 u64 u65 u66 u67 u68 u69 u70 u71 u72 u73 u74 u75 u76 u77 u78 u79 u80 u81 u82 u83 u84 u85 u86 u87 u88 u89 u90 u91 u92 u93 u94 u95 u96 u97 u98 u99 u100 u101 u102 u103 u104 u105 u106 u107 u108 u109 u110 u111 u112 u113 u114 u115 u116 u117 u118 u119 u120 u121 u122 u123 u124 u125 u126 u127 u128 u129 u130 u131 u132 u133 u134 u135 u136 u137 u138 u139 u140 u141 u142 u143 u144 u145 u146 u147 u148 u149 u150 u151 u152 u153 u154 u155 u156 u157 u158 u159 u160 u161 u162 u163 u164 u165 u166 u167 u168 u169 u170 u171 u172 u173 u174 u175 u176 u177 u178 u179 u180 u181 u182 u183 u184 u185 u186 u187 u188 u189 u190 u191 u192 u193 u194 u195 u196 u197 u198 u199 u200 u201 u202 u203 u204 u205 u206 u207 u208 u209 u210 u211 u212 u213 u214 u215 u216 u217 u218 u219 u220 u221 u222 u223 u224 u225 u226 u227 u228 u229 u230 u231 u232 u233 u234 u235 u236 u237 u238 u239 u240 u241 u242 u243 u244 u245 u246 u247 u248 u249 u250 u251 u252 u253 u254 u255 u256 u257 u258 u259 u260 u261 u262 u263 u264 u265 u266 u267 u268 u269 u270 u271 u272 u273 u274 u275 u276 u277 u278 u279 u280 u281 u282 u283 u284 u285 u286 u287 u288 u289 u290 u291 u292 u293 u294 u295 u296 u297 u298 u299 u300 u301 u302 u303 u304 u305 u306 u307 u308 u309 u310 u311 u312 u313 u314 u315 u316 u317 u318 u319 u320 u321 u322 u323 u324 u325 u326 u327 u328 u329 u330 u331 u332 u333 u334 u335 u336 u337 u338 u339 u340 u341 u342 u343 u344 u345 u346 u347 u348 u349 u350 u351 u352 u353 u354 u355 u356 u357 u358 u359 u360 u361 u362 u363 u364 u365 u366 u367 u368 u369 u370 : Value}
    (hn : n ≤ 255) (hcl : cl ≤ 1024) (hC : InB w w.heap.size ca cl f) (h3 : S3 w B n G A J flip m au wr) :
    Code.wp Yba.prog (tl 8) (bodyPost Yba.prog Yba.f5 (Fin w)) ⟨#[u0, u1, .slice ca cl cc, .bool flip, u4, u5, u6, u7, u8, .int .i64 n, .pointer (some ⟨G, 0, none⟩), u11, .slice (some ⟨J, 0, none⟩) (n * n) (n * n), u13, u14, u15, u16, u17, u18, u19, u20, u21, u22, u23, u24, u25, u26, u27, u28, u29, u30, u31, u32, u33, u34, u35, u36, u37, u38, u39, u40, u41, u42, u43, u44, u45, u46, u47, u48, u49, u50, u51, u52, u53, u54, u55, u56, u57, u58, u59, u60, u61, u62, u63, u64, u65, u66, u67, u68, u69, u70, u71, u72, u73, u74, u75, u76, u77, u78, u79, u80, u81, u82, u83, u84, u85, u86, u87, u88, u89, u90, u91, u92, u93, u94, u95, u96, u97, u98, u99, u100, u101, u102, u103, u104, u105, u106, u107, u108, u109, u110, u111, u112, u113, u114, u115, u116, u117, u118, u119, u120, u121, u122, u123, u124, u125, u126, u127, u128, u129, u130, u131, u132, u133, u134, u135, u136, u137, u138, u139, u140, u141, u142, u143, u144, u145, u146, u147, u148, u149, u150, u151, u152, u153, u154, u155, u156, u157, u158, u159, u160, u161, u162, u163, u164, u165, u166, u167, u168, u169, u170, u171, u172, u173, u174, u175, u176, u177, u178, u179, u180, u181, u182, u183, u184, u185, u186, u187, u188, u189, u190, u191, u192, u193, u194, u195, u196, u197, u198, u199, u200, u201, u202, u203, u204, u205, u206, u207, u208, u209, u210, u211, u212, u213, u214, u215, u216, u217, u218, u219, u220, u221, u222, u223, u224, u225, u226, u227, u228, u229, u230, u231, u232, u233, u234, u235, u236, u237, u238, u239, u240, u241, u242, u243, u244, u245, u246, u247, u248, u249, u250, u251, u252, u253, u254, u255, u256, u257, u258, u259, u260, u261, u262, u263, u264, u265, u266, u267, u268, u269, u270, u271, u272, u273, u274, u275, u276, u277, u278, u279, u280, u281, u282, u283, u284, u285, u286, u287, u288, u289, u290, u291, u292, u293, u294, u295, u296, u297, u298, u299, u300, u301, u302, u303, u304, u305, u306, u307, u308, u309, u310, u311, u312, u313, u314, u315, u316, u317, u318, u319, u320, u321, u322, u323, u324, u325, u326, u327, u328, u329, u330, u331, u332, u333, u334, u335, u336, u337, u338, u339, u340, u341, u342, u343, u344, u345, u346, u347, u348, u349, u350, u351, u352, u353, u354, u355, u356, u357, u358, u359, u360, u361, u362, u363, u364, u365, u366, u367, u368, u369, u370], []⟩ wr := by
  conv => arg 2; whnf
  have hg0 := h3.gr.nodes
  have hBr := h3.hB
  have hmB := run_madeB n (by omega)
  have H3 := mkHid h3
  have HC := mkHid hC
  clear h3 hC
  go_wp2_with fail
  refine (newSet_any G A n hn wr hg0).mono ?_
  rintro e w1 ⟨Hc, rfl, hHc, hhold, hbel⟩
  have hs1 := hbel.size
  have hHl := hhold.lt
  obtain ⟨wI, hwI⟩ : ∃ wI, ((w1.alloc (.cells #[.slice (some ⟨Hc, 0, none⟩) n n, .slice none 0 0] 46)).alloc (.cells (madeB n) 4)) = wI := ⟨_, rfl⟩
  have h3I : S3 w B n G A J flip m au wI := by
    rw [← hwI]
    exact H3.out.keep (((hbel.mono hBr).alloc (by omega) _).alloc (by simp; omega) _)
  have h4I : S4 B n w1.heap.size Hc (w1.heap.size + 1) A flip (.slice none 0 0) (fun _ => false) (fun _ => false) [] wI := by
    rw [← hwI]
    have hb := bools_new n (w1.alloc (.cells #[.slice (some ⟨Hc, 0, none⟩) n n, .slice none 0 0] 46))
    rw [World.size_alloc] at hb
    exact S4.start (by omega) (by omega) (by omega) (by omega) ((At.new w1 _).alloc _) ((hhold.keep (Below.heap_alloc _ _ _ hHl)).keep (Below.heap_alloc _ _ _ (by simp; omega))) hb
  have H3I := mkHid h3I
  have H4I := mkHid h4I
  have HWI := mkHid hwI
  obtain ⟨N, hN⟩ : ∃ N, w1.heap.size = N := ⟨_, rfl⟩
  rw [hN] at H4I
  clear h3I h4I hwI hhold hbel hHl hg0 H3
  go_upto_region 31 with fail
  rename_i K11 h11 K1 h1
  have H11 := mkHid h11
  clear h11 hmB
  by_cases hn0 : 0 < n
  · have hn0' : (0 : Int) < (n : Int) := by omega
    go_wp2
    rw [HWI.out]
    clear HWI
    go_loopw [178] (fun jj wx => ∃ (j : Nat) (v : Value) (hc ic : Nat → Bool) (l : List Nat), j ≤ cl ∧ jj = .int .i64 j ∧ S3 w B n G A J flip m au wx ∧ S4 B n N Hc (N + 1) A flip v hc ic l wx) (fun jj _ => cl - (intOf jj).toNat)
    case atStart => exact ⟨0, _, _, _, _, Nat.zero_le _, rfl, H3I.out, H4I.out⟩
    case round =>
      clear H3I H4I
      obtain ⟨j, v, hc, ic, l, hj, rfl, h3, h4⟩ := hrel
      have H3 := mkHid h3
      have H4 := mkHid h4
      by_cases hjl : j < cl
      · obtain ⟨lb, off, hla, hlb, hc0, hf0⟩ := (HC.out.below h3.bel (Nat.le_refl _)) j hjl
        have hix := run_index22 ca lb off cl cc j hla hjl
        have hjl' : (j : Int) < (cl : Int) := by omega
        obtain ⟨a, ha⟩ : ∃ a, f j % n = a := ⟨_, rfl⟩
        have han : a < n := by rw [← ha]; exact Nat.mod_lt _ hn0
        have ea : ((f j : Nat) : Int) % (n : Int) = (a : Int) := by rw [← Int.natCast_emod, ha]
        have hnz : ¬ (n : Int) = 0 := by omega
        have hxa : ∀ w' : World, (Instr.indexAt 41 (.slice (some ⟨N + 1, 0, none⟩) n n) (.int .i64 (((f j : Nat) : Int) % (n : Int)))).run Yba.prog w' = .ok (.pointer (some ⟨N + 1, a, none⟩)) w' := by rw [ea]; exact run_index41 (N + 1) n n a han
        have hica := h4.inc.cell a han
        have hicf := h4.inc.free a
        have hp := pos_lt (flip := flip) han
        obtain ⟨p, hpe⟩ : ∃ p, pos n flip a = p := ⟨_, rfl⟩
        have hxp := run_index31 A n n p (by omega)
        have hBw := h3.hB
        have hcn := h4.cnt
        have hgG : G ≠ N + 1 := by have := h3.gr.hG; have := h4.hI; omega
        have hAB := h3.gr.nds.hA
        have hAI : A ≠ N + 1 := by have := h4.hI; omega
        have hI := h4.hI
        have HPE := mkHid hpe
        have HEA := mkHid ea
        clear hla ha ea h3 h4 hpe
        go_upto_region 37 with fail
        rw [HEA.out]
        obtain ⟨W, hW⟩ : ∃ W, wr.setCell ⟨N + 1, a, none⟩ (.bool true) = W := ⟨_, rfl⟩
        rw [hW]
        have hWs : W.heap.size = wr.heap.size := by rw [← hW]; simp [World.setCell]
        have h3W : S3 w B n G A J flip m au W := by rw [← hW]; exact H3.out.keep ((Below.refl _ _).setCell hI _)
        have hstW : SetAt W B N Hc A n v hc l := by rw [← hW]; exact H4.out.stored a
        have hg0 := h3W.gr.nodes
        have hGB := h3W.gr.hG
        have H3W := mkHid h3W
        have HST := mkHid hstW
        have HW := mkHid hW
        clear h3W hstW hW
        have hpn : p < n := by rw [← HPE.out]; exact hp
        have hll : l.length ≤ 1000 := by omega
        have hBW : B ≤ W.drew.heap.size := by show B ≤ W.heap.size; omega
        have hidx : W.drew.cell? ⟨A, p * 4 + 1, none⟩ = some (.int .i64 p) := H3W.out.gr.nds.idx p hpn
        have HID := mkHid hidx
        clear hidx
        cases hb : hc p
        · have HB := mkHid hb
          clear hb
          go_region_held3 (fun w' => w'.cell? ⟨G, 0, none⟩ = some (.slice (some ⟨A, 0, none⟩) n n))
            ((first | (simp [*]; done) | (exact ((H4.out.below hfr hBW).cell (p := ⟨G, 0, none⟩) hGB).trans hg0) | fail))
            ((first | (go_at_call 11; refine (pos_any n a flip hn han _).mono ?_; rintro e wq ⟨rfl, hwq⟩; subst hwq; rw [HPE.out]) | (go_at_call 13; refine (add_new B N Hc A n p v hc l _ hpn hll hAB hBW ?_ HID.out HB.out).mono ?_; exact HST.out.keep (fun _ _ => rfl); rintro e wq ⟨rfl, v', hst, hfr, hv⟩) | fail))
          have h4' := H4.out.new a han (by rw [HPE.out]; exact HB.out) (wy := W.drew) (by rw [HW.out]; rfl) (wz := wq) (v' := v') (by rw [HPE.out]; exact hst) hfr hv
          have h3' := H3W.out.keep ((below_drewN (Below.refl _ _) 1).trans (H4.out.below hfr hBW))
          have H4' := mkHid h4'
          have H3' := mkHid h3'
          clear h4' h3' hst hfr hv
          go_wp2
          go_roundw
          case rel => exact ⟨j + 1, _, _, _, _, by omega, by go_num, H3'.out, H4'.out⟩
          case measure => simp [intOf]; omega
        · have HB := mkHid hb
          clear hb
          go_region_held3 (fun w' => w'.cell? ⟨G, 0, none⟩ = some (.slice (some ⟨A, 0, none⟩) n n))
            ((first | (simp [*]; done) | fail))
            ((first | (go_at_call 11; refine (pos_any n a flip hn han _).mono ?_; rintro e wq ⟨rfl, hwq⟩; subst hwq; rw [HPE.out]) | (go_at_call 13; refine (add_old N Hc A n p hc _ hpn ?_ ?_ HID.out HB.out).mono ?_; exact (HST.out.at_.cell 0).trans rfl; exact HST.out.hold.keep rfl; rintro e wq ⟨rfl, k2, hwq⟩; subst hwq) | fail))
          have h4' : S4 B n N Hc (N + 1) A flip v hc (upd ic a true) l (W.drewN (1 + k2)) := by rw [← HW.out]; exact H4.out.old a han (by rw [HPE.out]; exact HB.out) (1 + k2)
          have h3' := H3W.out.keep (below_drewN (Below.refl _ _) (1 + k2))
          have H4' := mkHid h4'
          have H3' := mkHid h3'
          clear h4' h3'
          go_wp2
          go_roundw
          case rel => exact ⟨j + 1, _, _, _, _, by omega, by go_num, H3'.out, H4'.out⟩
          case measure => simp [intOf]; omega
      · obtain rfl : cl = j := by omega
        clear h3 h4
        go_wp2
        refine H11.out _ _ ?_
        exact t11 hn H3.out H4.out
  · obtain rfl : n = 0 := by omega
    go_wp2
    rw [HWI.out]
    refine H11.out _ _ ?_
    exact t11 hn H3I.out H4I.out
end Go.Proofs.Ybulkrsi
