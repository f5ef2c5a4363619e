/-
  Seat b0905a. The law's order of the nodes.
-/
import Derived.Test.YbulkrsiT8
namespace Go.Proofs.Ybulkrsi
open Go.RowKit

/-- The graph while its order is laid: i nodes are in it. -/
structure SO (w : World) (n A : Nat) (flip : Bool) (i : Nat) (wx : World) (m : Nat → Bool) (au : Nat → List Nat) (av : Nat → Value) (v : Value) : Prop where
  gat : At wx (w.heap.size + 2) (.cells #[.slice (some ⟨A, 0, none⟩) n n, .map none, v, .slice none 0 0, .map none] 37 (0, 0))
  a1 : w.heap.size ≤ A
  a2 : A < w.heap.size + 2
  nb : NB wx A n n av
  vf : ∃ g c, v = .slice (some ⟨g, 0, none⟩) i c
  orow : wx.ownsRow w.heap.size 44 1 v i ((List.range i).map (fun x => nd A (pos n flip x)))
  adj : Bools wx (w.heap.size + 3) (n * n) m
  bel : Below w.heap.size w wx
  rows : ∀ p, p < n → wx.ownsRow (w.heap.size + 4) 44 1 (av p) (au p).length ((au p).map (nd A))
  odis : ∀ p g, p < n → v.ownBlock = some g → (av p).ownBlock ≠ some g
theorem SO.start {w wx : World} {n A O j : Nat} {flip : Bool} {m : Nat → Bool} {au : Nat → List Nat} {av : Nat → Value} (h : S2 w n A O flip j wx m au av) : SO w n A flip 0 wx m au av (.slice (some ⟨O, 0, none⟩) 0 n) :=
  ⟨h.gat, h.a1, h.a2, h.nb, ⟨O, n, rfl⟩, h.orow, h.adj, h.bel, h.rows, fun p g hp hg hp' => by
    have := ((h.rows p hp).lt g hp').1
    simp [Value.ownBlock] at hg
    have := h.o2
    omega⟩
theorem SO.push {w wx wy : World} {n A i : Nat} {flip : Bool} {m : Nat → Bool} {au : Nat → List Nat} {av : Nat → Value} {v v' : Value} (h : SO w n A flip i wx m au av v)
    (ho : wy.ownsRow w.heap.size 44 1 v' (i + 1) ((List.range i).map (fun x => nd A (pos n flip x)) ++ [nd A (pos n flip i)])) (hg : wx.grownBy wy v.ownBlock) (hv : v'.ownBlock = v.ownBlock ∨ ∃ g, v'.ownBlock = some g ∧ wx.heap.size ≤ g) :
    SO w n A flip (i + 1) (wy.setCell ⟨w.heap.size + 2, 2, none⟩ v') m au av v' := by
  have ha1 := h.a1
  have ha2 := h.a2
  have hgl := h.gat.lt
  obtain ⟨CA, hCA, hCA2⟩ := h.nb
  obtain ⟨CJ, hCJ, hCJ2⟩ := h.adj
  have hvt : ∀ b, v.ownBlock = some b → ∃ cur, At wx b (.cells cur 44 (0, 0)) := fun b hb => own_at h.orow hb
  have hnA : some A ≠ v.ownBlock := fun e => by obtain ⟨cur, hcur⟩ := hvt A e.symm; exact At.ne hcur hCA (by decide) rfl
  have hnG : some (w.heap.size + 2) ≠ v.ownBlock := fun e => by obtain ⟨cur, hcur⟩ := hvt _ e.symm; exact At.ne hcur h.gat (by decide) rfl
  have hnJ : some (w.heap.size + 3) ≠ v.ownBlock := fun e => by obtain ⟨cur, hcur⟩ := hvt _ e.symm; exact At.ne hcur hCJ (by decide) rfl
  have blk : ∀ b, b < wx.heap.size → some b ≠ v.ownBlock → b ≠ w.heap.size + 2 → (wy.setCell ⟨w.heap.size + 2, 2, none⟩ v').heap[b]? = wx.heap[b]? := fun b hb hne hG => (heap_setCell_other _ _ _ _ hG).trans (hg.block b hb hne)
  have hv' : ∀ g, v'.ownBlock = some g → g ≠ w.heap.size + 2 := fun g hg' e => by
    rcases hv with h0 | ⟨g', h0, hge⟩
    · exact hnG (by rw [← h0, hg', e])
    · rw [hg'] at h0; cases h0; omega
  refine ⟨?_, h.a1, h.a2, ⟨CA, (blk A hCA.lt hnA (by omega)).trans hCA, hCA2⟩, ?_, ?_, ⟨CJ, (blk _ hCJ.lt hnJ (by omega)).trans hCJ, hCJ2⟩, ?_, fun p hp => ?_, fun p g hp hgv => ?_⟩
  · have := At.set ((hg.block _ hgl hnG).trans h.gat) 2 v'
    simpa using this
  · rcases ho.2 with ⟨_, e⟩ | ⟨g, cap, cur, e, _⟩
    · simp at e
    · exact ⟨g, cap, e⟩
  · have := own_keep (w' := wy.setCell ⟨w.heap.size + 2, 2, none⟩ v') ho (fun g hg' => heap_setCell_other _ _ _ _ (hv' g hg'))
    rw [List.range_succ, List.map_append]
    exact this
  · refine ⟨hg.os.trans h.bel.os, hg.tape.trans h.bel.tape, hg.output.trans h.bel.output, ?_, fun b hb => ?_⟩
    · have h1 := hg.size
      have h2 := h.bel.size
      have h3 : (wy.setCell ⟨w.heap.size + 2, 2, none⟩ v').heap.size = wy.heap.size := by simp [World.setCell]
      omega
    · have hb2 := h.bel.size
      refine (blk b (by omega) (fun e => ?_) (by omega)).trans (h.bel.block b hb)
      have := (h.orow.lt b e.symm).1
      omega
  · refine own_keep (h.rows p hp) (fun g hg' => ?_)
    have := (h.rows p hp).lt g hg'
    exact blk g this.2 (fun e => h.odis p g hp e.symm hg') (by omega)
  · rcases hv with h0 | ⟨g', h0, hge⟩
    · exact h.odis p g hp (h0 ▸ hgv)
    · rw [hgv] at h0
      cases h0
      intro e
      have := ((h.rows p hp).lt g e).2
      omega
/-- Behind the loop. -/
theorem SO.done {w wx : World} {n A : Nat} {flip : Bool} {m : Nat → Bool} {au : Nat → List Nat} {av : Nat → Value} {v : Value} (h : SO w n A flip n wx m au av v)
    (hrel : ∀ hi lo, hi < n → lo < n → (pos n flip lo ∈ au (pos n flip hi) ↔ m (hi * n + lo) = true)) (hlow : ∀ hi lo, hi < n → lo < n → m (hi * n + lo) = true → lo < hi) (hlt : ∀ p, p < n → ∀ q, q ∈ au p → q < n) (hln : ∀ p, p < n → (au p).length ≤ 2000) :
    S3 w wx.heap.size n (w.heap.size + 2) A (w.heap.size + 3) flip m au wx := by
  refine ⟨⟨h.gat.lt, ⟨h.nb.lt, h.nb.c1, fun p hp => ?_, hlt, hln⟩, (h.gat.cell 0).trans rfl, ?_⟩, h.adj, h.adj.lt, Nat.le_refl _, h.bel.size, h.bel, ⟨fun i hi => pos_lt hi, fun i j hi hj e => pos_inj hi hj e, fun p hp => ⟨pos n flip p, pos_lt hp, pos_pos hp⟩, fun i q hi hq => ?_⟩, hrel, hlow⟩
  · obtain ⟨a, c, e⟩ := own_form (h.rows p hp)
    refine ⟨a, c, by rw [← e]; exact h.nb.c3 p hp, fun j q hj => ?_⟩
    rcases (h.rows p hp).2 with ⟨_, e1⟩ | ⟨g, cap, cur, e0, hg, hgg, _⟩
    · have : j < (au p).length := (List.getElem?_eq_some_iff.1 hj).1
      omega
    · rw [e] at e0
      cases e0
      have hr := h.rows p hp
      rw [e] at hr
      have hc1 := hr.cells (g := g) rfl j (nd A q) (by rw [List.getElem?_map, hj]; rfl)
      rw [Addr.add_lit] at hc1
      exact ⟨g, rfl, lt_of_block hgg, by simpa using hc1⟩
  · obtain ⟨g, c, e⟩ := h.vf
    have hr := h.orow
    have hc2 : wx.cell? ⟨w.heap.size + 2, 2, none⟩ = some v := (h.gat.cell 2).trans rfl
    rw [e] at hr hc2
    refine ⟨g, c, (hr.lt g rfl).2, hc2, fun i hi => ?_⟩
    have hc1 := hr.cells (g := g) rfl i (nd A (pos n flip i)) (by rw [List.getElem?_map, List.getElem?_range hi]; rfl)
    rw [Addr.add_lit] at hc1
    simpa using hc1
  · have hqn := hlt _ (pos_lt hi) q hq
    refine ⟨pos n flip q, hlow i _ hi (pos_lt hqn) ((hrel i _ hi (pos_lt hqn)).1 (by rw [pos_pos hqn]; exact hq)), pos_pos hqn⟩

set_option maxHeartbeats 8000000 in
set_option maxRecDepth 1000000 in
theorem t7 {n A O ll cl cc : Nat} {flip : Bool} {m : Nat → Bool} {au : Nat → List Nat} {av : Nat → Value} {ca : Option Addr} {f : Nat → Nat} {w wr : World} {u0 u1 u4 u5 u6 u7 u8 u11 u13 u14 u15 u16 u17 u18 u19 u20 u21 u22 u23 u24 u25 u26 u27 u28 u29 u30 u31 u32 u33 u34 u35 u36 u37 u38 u39 u40 u41 u42 u43 u44 u45 u46 u47 u48 u49 u50 u51 u52 u53 u54 u55 u56 u57 u58 u59 u60 u61 u62 u63 u64 u65 u66 u67 u68 u69 u70 u71 u72 u73 u74 u75 u76 u77 u78 u79 u80 u81 u82 u83 u84 u85 u86 u87 u88 u89 u90 u91 u92 u93 u94 u95 u96 u97 u98 u99 u100 u101 u102 u103 u104 u105 u106 u107 u108 u109 u110 u111 u112 u113 u114 u115 u116 u117 u118 u119 u120 u121 u122 u123 u124 u125 u126 u127 u128 u129 u130 u131 u132 u133 u134 u135 u136 u137 u138 u139 u140 u141 u142 u143 u144 u145 u146 u147 u148 u149 u150 u151 u152 u153 u154 u155 u156 u157 u158 u159 u160 u161 u162 u163 u164 u165 u166 u167 u168 u169 u170 u171 u172 u173 u174 u175 u176 u177 u178 u179 u180 u181 u182 u183 u184 u185 u186 u187 u188 u189 u190 u191 u192 u193 u194 u195 u196 u197 u198 u199 u200 u201 u202 u203 u204 u205 u206 u207 u208 u209 u210 u211 u212 u213 u214 u215 u216 u217 u218 u219 u220 u221 u222 u223 u224 u225 u226 u227 u228 u229 u230 u231 u232 u233 u234 u235 u236 u237 u238 u239 u240 u241 u242 u243 u244 u245 u246 u247 u248 u249 u250 u251 u252 u253 u254 u255 u256 u257 u258 u259 u260 u261 u262 u263 u264 u265 u266 u267 u268 u269 u270 u271 u272 u273 u274 u275 u276 u277 u278 u279 u280 u281 u282 u283 u284 u285 u286 u287 u288 u289 u290 u291 u292 u293 u294 u295 u296 u297 u298 u299 u300 u301 u302 u303 u304 u305 u306 u307 u308 u309 u310 u311 u312 u313 u314 u315 u316 u317 u318 u319 u320 u321 u322 u323 u324 u325 u326 u327 u328 u329 u330 u331 u332 u333 u334 u335 u336 u337 u338 u339 u340 u341 u342 u343 u344 u345 u346 u347 u348 u349 u350 u351 u352 u353 u354 u355 u356 u357 u358 u359 u360 u361 u362 u363 u364 u365 u366 u367 u368 u369 u370 : Value}
    (hn : n ≤ 255) (hll : ll ≤ 1024) (hcl : cl ≤ 1024) (hC : InB w w.heap.size ca cl f) (h2 : S2 w n A O flip ll wr m au av) :
    Code.wp Yba.prog (tl 7) (bodyPost Yba.prog Yba.f5 (Fin w)) ⟨#[u0, u1, .slice ca cl cc, .bool flip, u4, u5, u6, u7, u8, .int .i64 n, .pointer (some ⟨w.heap.size + 2, 0, none⟩), u11, .slice (some ⟨w.heap.size + 3, 0, none⟩) (n * n) (n * n), u13, u14, u15, u16, u17, u18, u19, u20, u21, u22, u23, u24, u25, u26, u27, u28, u29, u30, u31, u32, u33, u34, u35, u36, u37, u38, u39, u40, u41, u42, u43, u44, u45, u46, u47, u48, u49, u50, u51, u52, u53, u54, u55, u56, u57, u58, u59, u60, u61, u62, u63, u64, u65, u66, u67, u68, u69, u70, u71, u72, u73, u74, u75, u76, u77, u78, u79, u80, u81, u82, u83, u84, u85, u86, u87, u88, u89, u90, u91, u92, u93, u94, u95, u96, u97, u98, u99, u100, u101, u102, u103, u104, u105, u106, u107, u108, u109, u110, u111, u112, u113, u114, u115, u116, u117, u118, u119, u120, u121, u122, u123, u124, u125, u126, u127, u128, u129, u130, u131, u132, u133, u134, u135, u136, u137, u138, u139, u140, u141, u142, u143, u144, u145, u146, u147, u148, u149, u150, u151, u152, u153, u154, u155, u156, u157, u158, u159, u160, u161, u162, u163, u164, u165, u166, u167, u168, u169, u170, u171, u172, u173, u174, u175, u176, u177, u178, u179, u180, u181, u182, u183, u184, u185, u186, u187, u188, u189, u190, u191, u192, u193, u194, u195, u196, u197, u198, u199, u200, u201, u202, u203, u204, u205, u206, u207, u208, u209, u210, u211, u212, u213, u214, u215, u216, u217, u218, u219, u220, u221, u222, u223, u224, u225, u226, u227, u228, u229, u230, u231, u232, u233, u234, u235, u236, u237, u238, u239, u240, u241, u242, u243, u244, u245, u246, u247, u248, u249, u250, u251, u252, u253, u254, u255, u256, u257, u258, u259, u260, u261, u262, u263, u264, u265, u266, u267, u268, u269, u270, u271, u272, u273, u274, u275, u276, u277, u278, u279, u280, u281, u282, u283, u284, u285, u286, u287, u288, u289, u290, u291, u292, u293, u294, u295, u296, u297, u298, u299, u300, u301, u302, u303, u304, u305, u306, u307, u308, u309, u310, u311, u312, u313, u314, u315, u316, u317, u318, u319, u320, u321, u322, u323, u324, u325, u326, u327, u328, u329, u330, u331, u332, u333, u334, u335, u336, u337, u338, u339, u340, u341, u342, u343, u344, u345, u346, u347, u348, u349, u350, u351, u352, u353, u354, u355, u356, u357, u358, u359, u360, u361, u362, u363, u364, u365, u366, u367, u368, u369, u370], []⟩ wr := by
  conv => arg 2; whnf
  have HREL := mkHid h2.rel
  have HLOW := mkHid h2.low
  have HLT := mkHid h2.lt
  have HLN := mkHid h2.len
  have HSO := mkHid (SO.start h2)
  have HC := mkHid hC
  clear h2 hC
  go_upto_region 25 with fail
  rename_i K8 h8 K1 h1
  have H8 := mkHid h8
  clear h8
  go_wp2
  go_loopw [20] (fun ii wx => ∃ (i : Nat) (v : Value), i ≤ n ∧ ii = .int .i64 i ∧ SO w n A flip i wx m au av v) (fun ii _ => n - (intOf ii).toNat)
  case atStart => exact ⟨0, _, Nat.zero_le _, rfl, HSO.out⟩
  case round =>
    clear HSO
    obtain ⟨i, v, hi, rfl, hso⟩ := hrel
    by_cases hin : i < n
    · have hin' : (i : Int) < (n : Int) := by omega
      obtain ⟨vg, vc0, rfl⟩ := hso.vf
      have hg0 : wr.cell? ⟨w.heap.size + 2, 0, none⟩ = some (.slice (some ⟨A, 0, none⟩) n n) := (hso.gat.cell 0).trans rfl
      have hg2 : wr.cell? ⟨w.heap.size + 2, 2, none⟩ = some (.slice (some ⟨vg, 0, none⟩) i vc0) := (hso.gat.cell 2).trans rfl
      have hfg := hso.gat.free 2
      have hgl := hso.gat.lt
      have hws := hso.bel.size
      have hp := pos_lt (flip := flip) hin
      obtain ⟨p, hpe⟩ : ∃ p, pos n flip i = p := ⟨_, rfl⟩
      have hxp := run_index31 A n n p (by omega)
      have HSO := mkHid hso
      have HPE := mkHid hpe
      clear hso hpe
      go_upto_region 28 with fail
      refine ways_begin (S := fun w' => w'.cell? ⟨w.heap.size + 2, 0, none⟩ = some (.slice (some ⟨A, 0, none⟩) n n) ∧ w'.cell? ⟨w.heap.size + 2, 2, none⟩ = some (.slice (some ⟨vg, 0, none⟩) i vc0)) (z := 18) (by kernel_rfl) ?_
      have hHeld : wr.drew.cell? ⟨w.heap.size + 2, 0, none⟩ = some (.slice (some ⟨A, 0, none⟩) n n) ∧ wr.drew.cell? ⟨w.heap.size + 2, 2, none⟩ = some (.slice (some ⟨vg, 0, none⟩) i vc0) := ⟨hg0, hg2⟩
      refine ways_take (i := 0) (oi := { dst := some 152, op := _, type := _, pos := _, after := _, guard := none }) (v := ?v0) rfl (by kernel_rfl) (by kernel_rfl) (by kernel_rfl) (by kernel_rfl) (fun _ _ _ h => h) (Or.inl ⟨by rfl, ?hy0⟩) hHeld ?rest0
      case hy0 => (intro w' hSw; go_simp <;> with_reducible rfl)
      simp only [Act.put, List.setIfInBounds_toArray, List.set_cons_zero, List.set_cons_succ]
      refine ways_take (i := 1) (oi := { dst := some 153, op := _, type := _, pos := _, after := _, guard := none }) (v := ?v1) rfl (by kernel_rfl) (by kernel_rfl) (by kernel_rfl) (by kernel_rfl) (fun _ _ _ h => h) (Or.inl ⟨by rfl, ?hy1⟩) hHeld ?rest1
      case hy1 => (intro w' hSw; go_simp <;> with_reducible rfl)
      simp only [Act.put, List.setIfInBounds_toArray, List.set_cons_zero, List.set_cons_succ]
      refine ways_take (i := 2) (oi := { dst := some 154, op := _, type := _, pos := _, after := _, guard := none }) (v := ?v2) rfl (by kernel_rfl) (by kernel_rfl) (by kernel_rfl) (by kernel_rfl) (fun _ _ _ h => h) (Or.inl ⟨by rfl, ?hy2⟩) hHeld ?rest2
      case hy2 => (intro w' hSw; go_simp <;> with_reducible rfl)
      simp only [Act.put, List.setIfInBounds_toArray, List.set_cons_zero, List.set_cons_succ]
      refine ways_take (i := 3) (oi := { dst := some 155, op := _, type := _, pos := _, after := _, guard := none }) (v := ?v3) rfl (by kernel_rfl) (by kernel_rfl) (by kernel_rfl) (by kernel_rfl) (fun _ _ _ h => h) (Or.inl ⟨by rfl, ?hy3⟩) hHeld ?rest3
      case hy3 => (intro w' hSw; go_simp <;> with_reducible rfl)
      simp only [Act.put, List.setIfInBounds_toArray, List.set_cons_zero, List.set_cons_succ]
      refine ways_take (i := 4) (oi := { dst := some 156, op := _, type := _, pos := _, after := _, guard := none }) (v := ?v4) rfl (by kernel_rfl) (by kernel_rfl) (by kernel_rfl) (by kernel_rfl) (fun _ _ _ h => h) (Or.inl ⟨by rfl, ?hy4⟩) hHeld ?rest4
      case hy4 => (intro w' hSw; go_simp <;> with_reducible rfl)
      simp only [Act.put, List.setIfInBounds_toArray, List.set_cons_zero, List.set_cons_succ]
      refine ways_take (i := 5) (oi := { dst := some 157, op := _, type := _, pos := _, after := _, guard := none }) (v := ?v5) rfl (by kernel_rfl) (by kernel_rfl) (by kernel_rfl) (by kernel_rfl) (fun _ _ _ h => h) (Or.inl ⟨by rfl, ?hy5⟩) hHeld ?rest5
      case hy5 => (intro w' hSw; go_simp <;> with_reducible rfl)
      simp only [Act.put, List.setIfInBounds_toArray, List.set_cons_zero, List.set_cons_succ]
      refine ways_take (i := 6) (oi := { dst := some 158, op := _, type := _, pos := _, after := _, guard := none }) (v := ?v6) rfl (by kernel_rfl) (by kernel_rfl) (by kernel_rfl) (by kernel_rfl) (fun _ _ _ h => h) (Or.inl ⟨by rfl, ?hy6⟩) hHeld ?rest6
      case hy6 => (intro w' hSw; go_simp <;> with_reducible rfl)
      simp only [Act.put, List.setIfInBounds_toArray, List.set_cons_zero, List.set_cons_succ]
      refine ways_take (i := 7) (oi := { dst := some 159, op := _, type := _, pos := _, after := _, guard := none }) (v := ?v7) rfl (by kernel_rfl) (by kernel_rfl) (by kernel_rfl) (by kernel_rfl) (fun _ _ _ h => h) (Or.inl ⟨by rfl, ?hy7⟩) hHeld ?rest7
      case hy7 => (intro w' hSw; go_simp <;> with_reducible rfl)
      simp only [Act.put, List.setIfInBounds_toArray, List.set_cons_zero, List.set_cons_succ]
      refine ways_take (i := 8) (oi := { dst := some 160, op := _, type := _, pos := _, after := _, guard := none }) (v := ?v8) rfl (by kernel_rfl) (by kernel_rfl) (by kernel_rfl) (by kernel_rfl) (fun _ _ _ h => h) (Or.inl ⟨by rfl, ?hy8⟩) hHeld ?rest8
      case hy8 => (intro w' hSw; go_simp <;> with_reducible rfl)
      simp only [Act.put, List.setIfInBounds_toArray, List.set_cons_zero, List.set_cons_succ]
      refine ways_take (i := 9) (oi := { dst := some 161, op := _, type := _, pos := _, after := _, guard := none }) (v := ?v9) rfl (by kernel_rfl) (by kernel_rfl) (by kernel_rfl) (by kernel_rfl) (fun _ _ _ h => h) (Or.inl ⟨by rfl, ?hy9⟩) hHeld ?rest9
      case hy9 => (intro w' hSw; go_simp <;> with_reducible rfl)
      simp only [Act.put, List.setIfInBounds_toArray, List.set_cons_zero, List.set_cons_succ]
      refine ways_take (i := 10) (oi := { dst := some 162, op := _, type := _, pos := _, after := _, guard := none }) (v := ?v10) rfl (by kernel_rfl) (by kernel_rfl) (by kernel_rfl) (by kernel_rfl) (fun _ _ _ h => h) (Or.inl ⟨by rfl, ?hy10⟩) hHeld ?rest10
      case hy10 => (intro w' hSw; go_simp <;> with_reducible rfl)
      simp only [Act.put, List.setIfInBounds_toArray, List.set_cons_zero, List.set_cons_succ]
      refine ways_take (i := 11) (oi := { dst := some 163, op := _, type := _, pos := _, after := _, guard := none }) (v := ?v11) rfl (by kernel_rfl) (by kernel_rfl) (by kernel_rfl) (by kernel_rfl) (fun _ _ _ h => h) (Or.inl ⟨by rfl, ?hy11⟩) hHeld ?rest11
      case hy11 => (intro w' hSw; go_simp <;> with_reducible rfl)
      simp only [Act.put, List.setIfInBounds_toArray, List.set_cons_zero, List.set_cons_succ]

      refine ways_one (i := 12) (o := { dst := some 164, op := _, type := _, pos := _, after := _, guard := none }) rfl (by kernel_rfl) (fun K hK => ?_)
      go_simp
      refine (pos_any n i flip hn hin _).mono ?_
      rintro e wq ⟨rfl, hwq⟩
      subst hwq
      rw [HPE.out]
      refine hK.out _ _ hHeld ?_
      clear hK K
      (try simp only [Act.put, List.setIfInBounds_toArray, List.set_cons_zero, List.set_cons_succ])
      refine ways_take (i := 13) (oi := { dst := some 165, op := _, type := _, pos := _, after := _, guard := none }) (v := ?v13) rfl (by kernel_rfl) (by kernel_rfl) (by kernel_rfl) (by kernel_rfl) (fun _ _ _ h => h) (Or.inl ⟨by rfl, ?hy13⟩) hHeld ?rest13
      case hy13 => (intro w' hSw; go_simp <;> with_reducible rfl)
      simp only [Act.put, List.setIfInBounds_toArray, List.set_cons_zero, List.set_cons_succ]

      refine ways_one (i := 14) (o := { dst := some 166, op := _, type := _, pos := _, after := _, guard := none }) rfl (by kernel_rfl) (fun K hK => ?_)
      go_simp
      obtain ⟨W1, hW1⟩ : ∃ W1, (wr.alloc (.cells #[.pointer (some ⟨A, p * 4, none⟩)] 44)).drew = W1 := ⟨_, rfl⟩
      have hb01 : Below wr.heap.size wr W1 := by rw [← hW1]; exact ((Below.refl _ _).alloc (Nat.le_refl _) _).drew
      have hHeld1 : W1.cell? ⟨w.heap.size + 2, 0, none⟩ = some (.slice (some ⟨A, 0, none⟩) n n) ∧ W1.cell? ⟨w.heap.size + 2, 2, none⟩ = some (.slice (some ⟨vg, 0, none⟩) i vc0) :=
        ⟨(hb01.cell (p := ⟨w.heap.size + 2, 0, none⟩) hgl).trans hg0, (hb01.cell (p := ⟨w.heap.size + 2, 2, none⟩) hgl).trans hg2⟩
      have hrow1 : W1.ownsRow w.heap.size 44 1 (.slice (some ⟨vg, 0, none⟩) i vc0) i ((List.range i).map (fun x => nd A (pos n flip x))) := own_keep HSO.out.orow (fun g hg => hb01.block g (HSO.out.orow.lt g hg).2)
      have hnew1 : W1.cell? ⟨wr.heap.size, 0, none⟩ = some (nd A p) := by rw [← hW1]; exact (At.cell (At.new wr (.cells #[.pointer (some ⟨A, p * 4, none⟩)] 44)) 0).trans rfl
      have hgb1 : wr.grownBy W1 (Value.slice (some ⟨vg, 0, none⟩) i vc0).ownBlock := by rw [← hW1]; exact gb_drew2 (World.grownBy_alloc _ _ _)
      rw [hW1]
      refine hK.out _ _ hHeld1 ?_
      clear hK K
      (try simp only [Act.put, List.setIfInBounds_toArray, List.set_cons_zero, List.set_cons_succ])
      refine ways_one (i := 15) (o := { dst := some 167, op := _, type := _, pos := _, after := _, guard := none }) rfl (by kernel_rfl) (fun K hK => ?_)
      rw [if_pos (by rfl)]
      refine wp_app (.tmp 156) (.tmp 166) rfl w.heap.size _ i ((List.range i).map (fun x => nd A (pos n flip x))) rfl hrow1 ⟨wr.heap.size, 0, none⟩ (nd A p) rfl hnew1 rfl ?_ ?_ ?_
      · omega
      · have := hb01.size; omega
      intro v' W2 ho2 hgb2 hv2
      have hnG : some (w.heap.size + 2) ≠ (Value.slice (some ⟨vg, 0, none⟩) i vc0).ownBlock := fun e => by
        obtain ⟨cur, hcur⟩ := own_at HSO.out.orow e.symm
        exact At.ne hcur HSO.out.gat (by decide) rfl
      have hHeld2 : W2.cell? ⟨w.heap.size + 2, 0, none⟩ = some (.slice (some ⟨A, 0, none⟩) n n) ∧ W2.cell? ⟨w.heap.size + 2, 2, none⟩ = some (.slice (some ⟨vg, 0, none⟩) i vc0) :=
        ⟨hgb2.cell hHeld1.1 hnG, hgb2.cell hHeld1.2 hnG⟩
      have hf2 : W2.frozen? ⟨w.heap.size + 2, 2, none⟩ = false := by
        have h1 : W1.heap[w.heap.size + 2]? = wr.heap[w.heap.size + 2]? := hb01.block _ hgl
        have h2 : W2.heap[w.heap.size + 2]? = W1.heap[w.heap.size + 2]? := hgb2.block _ (by have := hb01.size; omega) hnG
        exact At.free ((h2.trans h1).trans HSO.out.gat) 2
      obtain ⟨va, vc, rfl⟩ := own_form ho2
      refine hK.out _ _ hHeld2 ?_
      clear hK K
      simp only [Act.put, List.setIfInBounds_toArray, List.set_cons_zero, List.set_cons_succ]
      refine ways_one (i := 16) (o := { dst := some 168, op := _, type := _, pos := _, after := _, guard := none }) rfl (by kernel_rfl) (fun K hK => ?_)
      go_simp
      refine hK.out _ _ hHeld2 ?_
      clear hK K
      (try simp only [Act.put, List.setIfInBounds_toArray, List.set_cons_zero, List.set_cons_succ])
      refine ways_take (i := 17) (oi := { dst := some 169, op := _, type := _, pos := _, after := _, guard := none }) (v := ?v17) rfl (by kernel_rfl) (by kernel_rfl) (by kernel_rfl) (by kernel_rfl) (fun _ _ _ h => h) (Or.inl ⟨by rfl, ?hy17⟩) hHeld2 ?rest17
      case hy17 => (intro w' hSw; go_simp <;> with_reducible rfl)
      simp only [Act.put, List.setIfInBounds_toArray, List.set_cons_zero, List.set_cons_succ]

      refine ways_last (o := { dst := none, op := _, type := _, pos := _, after := _, guard := none }) rfl (by kernel_rfl) (by kernel_rfl) (fun K hK => ?_)
      go_simp
      refine hK.out _ _ ?_
      clear hK K
      have hpu := HSO.out.push (wy := W2) (v' := .slice va (i + 1) vc) (by rw [HPE.out]; exact ho2) (gb_trans hgb1 hgb2)
        (by
          rcases hv2 with h0 | ⟨g, hg, hge⟩
          · exact .inl h0
          · exact .inr ⟨g, hg, by have := hb01.size; omega⟩)
      have HPU := mkHid hpu
      clear hpu ho2 hgb2 hv2 hHeld hHeld1 hHeld2 hrow1 hnew1 hf2 hnG
      go_wp2
      go_roundw
      case rel => exact ⟨i + 1, _, by omega, by go_num, HPU.out⟩
      case measure => simp [intOf]; omega
    · obtain rfl : n = i := by omega
      have H3 := mkHid (hso.done HREL.out HLOW.out HLT.out (fun p hp => by have := HLN.out p hp; omega))
      clear hso
      go_wp2
      refine H8.out _ _ ?_
      exact t8 hn hcl HC.out H3.out
end Go.Proofs.Ybulkrsi
