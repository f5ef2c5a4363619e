/-
  Seat b0905a. slices.Clone (function 22) and authChain (function 16).
-/
import Derived.Test.YbulkrsiAdd
import Derived.Laws.Cover3
namespace Go.Proofs.Ybulkrsi
open Go.RowKit

theorem run_eqlnil (a : Option Addr) (l c : Nat) (w : World) : (binOp .eql 32 (.slice a l c) (.slice none 0 0)).run Yba.prog w = .ok (.bool a.isNone) w := by
  have h := run_equal_slice_nil (P := Yba.prog) w 32 44 a l c Yba.underlying32
  simp [binOp, h]

set_option maxHeartbeats 1000000 in
set_option maxRecDepth 100000 in
theorem clone_any (B A : Nat) (nv : Value) (c : List Nat) (w : World) (hr : w.ownsRow B 44 1 nv c.length (c.map (nd A))) (hc : c.length ≤ 1000) :
    Calls Yba.prog 22 #[nv] w fun e w' => ∃ v', e = .returned v' ∧ w'.ownsRow w.heap.size 44 1 v' c.length (c.map (nd A)) ∧ Below w.heap.size w w' := by
  have HR := mkHid hr
  rcases hr.2 with ⟨rfl, h0⟩ | ⟨g, cap, cur, rfl, hb, hg, hn, hcm, hcs, ht⟩
  · have hc0 : c = [] := List.eq_nil_of_length_eq_zero h0
    subst hc0
    clear h0 hr HR
    have hq := run_eqlnil none 0 0
    go_enter Yba.func22, Yba.ntmps22
    go_wp2
    go_ret
    exact ⟨_, rfl, World.ownsRow_nil _ _ _ _, Below.refl _ _⟩
  · have hcells := hr.cells (g := g) rfl
    have HC := mkHid hcells
    have hq := run_eqlnil (some ⟨g, 0, none⟩) c.length cap
    clear hr hcells hb hg hn hcm hcs ht
    go_enter Yba.func22, Yba.ntmps22
    have hnews : ∀ j u, (c.map (nd A))[j]? = some u → (w.alloc (.cells #[] 44)).cell? ((⟨g, 0, none⟩ : Addr).add j) = some u := fun j u hj => by
      have hh := HC.out j u hj
      rw [Addr.add_lit] at hh ⊢
      rw [World.cell?_alloc_past _ _ _ (block_lt_of_cell hh)]
      exact hh
    have hown : (w.alloc (.cells #[] 44)).ownsRow w.heap.size 44 1 (.slice (some ⟨w.heap.size, 0, none⟩) 0 0) 0 [] := ⟨rfl, .inr ⟨w.heap.size, 0, #[], rfl, Nat.le_refl _, heap_alloc_new _ _, Nat.le_refl _, by unfold maxLen; omega, rfl, rfl⟩⟩
    have HN := mkHid hnews
    have HO := mkHid hown
    obtain ⟨i, hi, hz0, hz1, hz2⟩ := info_parts Yba.info44
    have HI := mkHid (And.intro hi (And.intro hz0 (And.intro hz1 hz2)))
    clear hnews hown hi hz0 hz1 hz2
    go_wp2_with (at_builtin; refine wpList_append_own _ rfl (.tmp 5) (.tmp 6) 32 rfl w.heap.size 44 i _ 1 8 Yba.underlying32 HI.out.1 HI.out.2.1 HI.out.2.2.1 HI.out.2.2.2 rfl (by decide) _ 0 [] rfl HO.out ⟨g, 0, none⟩ c.length cap (c.map (nd A)) rfl (by simp) HN.out (by simp [nd, Value.oneCell']) (by unfold maxLen; omega) (by omega) (by simp) ?_)
    intro v' w1 ho hg _
    have H1 := mkHid (And.intro ho hg)
    clear ho hg
    go_wp2
    go_ret
    refine ⟨v', rfl, by simpa using H1.out.1, ?_⟩
    exact ((Below.refl w.heap.size w).alloc (Nat.le_refl _) _).grown H1.out.2 (by simp) (fun g e => by simp [Value.ownBlock] at e; omega)

/-- The nodes in memory: each its number and its auth events, all below B. -/
structure Nds (w : World) (B A n : Nat) (au : Nat → List Nat) : Prop where
  hA : A < B
  idx : ∀ p, p < n → w.cell? ⟨A, p * 4 + 1, none⟩ = some (.int .i64 p)
  auth : ∀ p, p < n → ∃ a c, w.cell? ⟨A, p * 4 + 3, none⟩ = some (.slice a (au p).length c) ∧ ∀ j q, (au p)[j]? = some q → ∃ g, a = some ⟨g, 0, none⟩ ∧ g < B ∧ w.cell? ⟨g, j, none⟩ = some (nd A q)
  lt : ∀ p, p < n → ∀ q, q ∈ au p → q < n
  ln : ∀ p, p < n → (au p).length ≤ 2000
theorem Nds.below {w w' : World} {B A n : Nat} {au : Nat → List Nat} (h : Nds w B A n au) (hb : Below B w w') : Nds w' B A n au := by
  refine ⟨h.hA, fun p hp => (hb.cell (p := ⟨A, p * 4 + 1, none⟩) h.hA).trans (h.idx p hp), fun p hp => ?_, h.lt, h.ln⟩
  obtain ⟨a, c, h1, h2⟩ := h.auth p hp
  refine ⟨a, c, (hb.cell (p := ⟨A, p * 4 + 3, none⟩) h.hA).trans h1, fun j q hj => ?_⟩
  obtain ⟨g, e, hg, hc⟩ := h2 j q hj
  exact ⟨g, e, hg, (hb.cell (p := ⟨g, j, none⟩) hg).trans hc⟩

set_option maxRecDepth 100000 in
theorem run_index32 (a : Option Addr) (b len cap k : Nat) (ha : a = some ⟨b, 0, none⟩) (hk : k < len) (w : World) :
    (Instr.indexAt 32 (.slice a len cap) (.int .i64 (k : Int))).run Yba.prog w = .ok (.pointer (some ⟨b, k, none⟩)) w := by
  subst ha
  have hs : (sizeOf (Yba.prog.elem 32)).run Yba.prog w = .ok 1 w := by kernel_rfl
  rw [run_indexAt_slice w 32 _ _ _ _ _ Yba.underlying32, if_pos (by omega), hs]
  simp [Addr.add_lit]

/-- What a bool's cell says. -/
def hw (w : World) (H x : Nat) : Bool := match w.cell? ⟨H, x, none⟩ with | some (.bool b) => b | _ => false
theorem hw_of {w : World} {H n : Nat} {h : Nat → Bool} (hb : Bools w H n h) : cf (hw w H) n = cf h n := cf_congr n fun x hx => by unfold hw; rw [hb.cell x hx]
def lenOf : Value → Nat
  | .slice _ n _ => n
  | _ => 0

/-- The world between two rounds of authChain. -/
structure Ch (w : World) (B N H A n : Nat) (c : List Nat) (wr : World) (vw v : Value) (h : Nat → Bool) (l wl : List Nat) : Prop where
  wk : wr.ownsRow w.heap.size 44 1 vw wl.length (wl.map (nd A))
  st : SetAt wr B N H A n v h l
  dis : ∀ g, vw.ownBlock = some g → v.ownBlock ≠ some g
  far : ∀ g, v.ownBlock = some g → w.heap.size ≤ g
  fr : Fr (fun b => b = N ∨ b = H) w wr
  cnt : l.length + cf h n = n
  len : wl.length ≤ c.length + l.length
  lt : ∀ x, x ∈ wl → x < n

theorem own_shrink {w : World} {B : Nat} {e : TypeId} {g cap m : Nat} {xs : List Value} {x : Value} (h : w.ownsRow B e 1 (.slice (some ⟨g, 0, none⟩) (m + 1) cap) (m + 1) (xs ++ [x])) : w.ownsRow B e 1 (.slice (some ⟨g, 0, none⟩) m cap) m xs := by
  have hl := h.1
  rcases h.2 with ⟨_, h0⟩ | ⟨g', cap', cur, e1, hb, hg, hmc, hcm, hcs, htk⟩
  · omega
  · obtain ⟨rfl, rfl⟩ : g = g' ∧ cap = cap' := by simpa using e1
    simp at hl
    refine ⟨by simpa using hl, .inr ⟨g, cap, cur, rfl, hb, hg, by omega, hcm, hcs, ?_⟩⟩
    rw [Nat.mul_one] at htk ⊢
    have h1 : List.take m cur.toList = List.take m (List.take (m + 1) cur.toList) := by rw [List.take_take, Nat.min_eq_left (by omega)]
    rw [h1, htk]
    exact List.take_left' (by omega)

theorem within_any (x : Value) (w : World) : Calls Yba.prog 17 #[x] w fun e w' => e = .returned (.bool true) ∧ w' = w := by
  go_enter Yba.func17, Yba.ntmps17
  go_wp2
  go_ret
  exact ⟨rfl, rfl⟩

theorem Fr.trans2 {X Y : Nat → Prop} {w w' w'' : World} (h : Fr X w w') (k : Fr Y w' w'') (hxy : ∀ b, b < w.heap.size → Y b → X b) : Fr X w w'' :=
  ⟨h.env.trans k.env, fun b hb hx => (k.block b (Nat.lt_of_lt_of_le hb h.env.size) (fun hy => hx (hxy b hb hy))).trans (h.block b hb hx)⟩
theorem own_keep {w w' : World} {B : Nat} {e : TypeId} {size : Nat} {v : Value} {n : Nat} {xs : List Value} (h : w.ownsRow B e size v n xs) (hb : ∀ g, v.ownBlock = some g → w'.heap[g]? = w.heap[g]?) : w'.ownsRow B e size v n xs := by
  refine ⟨h.1, ?_⟩
  rcases h.2 with h0 | ⟨g, cap, cur, rfl, hg, hgg, rest⟩
  · exact .inl h0
  · exact .inr ⟨g, cap, cur, rfl, hg, (hb g rfl).trans hgg, rest⟩
theorem own_at {w : World} {B : Nat} {e : TypeId} {size : Nat} {v : Value} {n : Nat} {xs : List Value} (h : w.ownsRow B e size v n xs) {g : Nat} (hg : v.ownBlock = some g) : ∃ cur, At w g (.cells cur e (0, 0)) := by
  rcases h.2 with ⟨rfl, _⟩ | ⟨g', cap, cur, rfl, _, hgg, _⟩
  · simp [Value.ownBlock] at hg
  · simp [Value.ownBlock] at hg
    subst hg
    exact ⟨cur, hgg⟩
theorem Ch.drewN {w wr : World} {B N H A n : Nat} {c : List Nat} {vw v : Value} {h : Nat → Bool} {l wl : List Nat} (hc : Ch w B N H A n c wr vw v h l wl) (k : Nat) : Ch w B N H A n c (wr.drewN k) vw v h l wl :=
  ⟨own_keep hc.wk (fun _ _ => rfl), hc.st.keep (fun _ _ => rfl), hc.dis, hc.far, hc.fr.drewN k, hc.cnt, hc.len, hc.lt⟩

/-- One node more. -/
theorem Ch.push {w wr w3 w4 : World} {B N H A n : Nat} {c : List Nat} {vw v v3 v4 : Value} {h : Nat → Bool} {l wl : List Nat} {q : Nat} (hc : Ch w B N H A n c wr vw v h l wl) (hq : q < n) (hh : h q = false)
    (hS : SetAt w3 B N H A n v3 (upd h q true) (l ++ [q])) (hF : Fr (fun b => b = N ∨ b = H ∨ v.ownBlock = some b) wr w3) (hv : v3.ownBlock = v.ownBlock ∨ ∃ g, v3.ownBlock = some g ∧ wr.heap.size ≤ g)
    (ho : w4.ownsRow w.heap.size 44 1 v4 (wl.length + 1) (wl.map (nd A) ++ [nd A q])) (hg : w3.grownBy w4 vw.ownBlock) (hv4 : v4.ownBlock = vw.ownBlock ∨ ∃ g, v4.ownBlock = some g ∧ w3.heap.size ≤ g) :
    Ch w B N H A n c w4 v4 v3 (upd h q true) (l ++ [q]) (wl ++ [q]) := by
  obtain ⟨C, hC, _, _⟩ := hc.st.hold
  have hne : ∀ g, vw.ownBlock = some g → g ≠ N ∧ g ≠ H ∧ g < wr.heap.size ∧ w.heap.size ≤ g := fun g hg => by
    obtain ⟨cur, hcur⟩ := own_at hc.wk hg
    exact ⟨At.ne hcur hc.st.at_ (by decide), At.ne hcur hC (by decide), hcur.lt, (hc.wk.lt g hg).1⟩
  have hd3 : ∀ g, vw.ownBlock = some g → v3.ownBlock ≠ some g := fun g hg h3 => by
    rcases hv with h0 | ⟨g', h0, hge⟩
    · exact hc.dis g hg (h0 ▸ h3)
    · rw [h3] at h0
      have := (hne g hg).2.2.1
      cases h0
      omega
  refine ⟨by simpa using ho, hS.keep (fun b hb => hg.block b ?_ ?_), fun g h4 h3 => ?_, fun g h3 => ?_, ?_, ?_, by have := hc.len; simp; omega, fun x hx => ?_⟩
  · rcases hb with rfl | rfl | hb
    · exact hS.at_.lt
    · exact hS.hold.lt
    · exact (hS.rowNe b hb).2.2.2
  · intro e
    rcases hb with rfl | rfl | hb
    · exact (hne b e.symm).1 rfl
    · exact (hne b e.symm).2.1 rfl
    · exact hd3 b e.symm hb
  · rcases hv4 with h0 | ⟨g', h0, hge⟩
    · exact hd3 g (h0 ▸ h4) h3
    · have := (hS.rowNe g h3).2.2.2
      rw [h4] at h0
      cases h0
      omega
  · rcases hv with h0 | ⟨g', h0, hge⟩
    · exact hc.far g (h0 ▸ h3)
    · rw [h3] at h0
      cases h0
      exact Nat.le_trans hc.fr.env.size hge
  · refine (hc.fr.trans2 hF (fun b hb hy => ?_)).grown hg (fun g e hlt => by have := (hne g e).2.2.2; omega)
    rcases hy with h0 | h0 | h0
    · exact .inl h0
    · exact .inr h0
    · have := hc.far b h0; omega
  · have h1 := cf_upd h q hh n hq
    have h2 := hc.cnt
    simp
    omega
  · rcases List.mem_append.1 hx with h1 | h1
    · exact hc.lt x h1
    · have : x = q := by simpa using h1
      omega

theorem Ch.below {w wr : World} {B N H A n : Nat} {c : List Nat} {vw v : Value} {h : Nat → Bool} {l wl : List Nat} (hc : Ch w B N H A n c wr vw v h l wl) (hBw : B ≤ w.heap.size) : Below B w wr :=
  hc.fr.below hBw (fun b hb hx => by have h1 := hc.st.hN; have h2 := hc.st.hH; omega)

set_option maxHeartbeats 2000000 in
set_option maxRecDepth 100000 in
theorem chain_any (B B' N H A n : Nat) (au : Nat → List Nat) (c : List Nat) (g nv : Value) (w : World) (hn : n ≤ 255) (hcl : c.length ≤ 1000) (hcn : ∀ x, x ∈ c → x < n) (hBw : B ≤ w.heap.size) (hN : Nds w B A n au) (hS : SetAt w B N H A n (.slice none 0 0) (fun _ => false) []) (hr : w.ownsRow B' 44 1 nv c.length (c.map (nd A))) :
    Calls Yba.prog 16 #[g, .pointer (some ⟨N, 0, none⟩), nv, .func (.func 17) #[] #[]] w fun e w' => e = .returned (.tuple #[]) ∧ ∃ v h l, SetAt w' B N H A n v h l ∧ (∀ x, h x = true ↔ ∃ y, y ∈ c ∧ Pth au y x) ∧ Fr (fun b => b = N ∨ b = H) w w' := by
  have HN := mkHid hN
  have HS := mkHid hS
  have HR := mkHid hr
  clear hN hS hr
  go_enter Yba.func16, Yba.ntmps16
  go_wp2_with fail
  refine (clone_any B' A nv c w HR.out hcl).mono ?_
  rintro e w1 ⟨vw, rfl, ho, hb⟩
  have P0 : Hid (Ch w B N H A n c w1 vw (.slice none 0 0) (fun _ => false) [] c ∧ CO au c (fun _ => false) c) := by
    refine ⟨⟨ho, HS.out.keep (fun b hbb => hb.block b ?_), fun g _ => by simp [Value.ownBlock], fun g hg => by simp [Value.ownBlock] at hg, ⟨⟨hb.os, hb.tape, hb.output, hb.size, fun b hb => by omega⟩, fun b hb' _ => hb.block b hb'⟩, ?_, by simp, hcn⟩, CO.start au c⟩
    · rcases hbb with rfl | rfl | hbb
      · exact HS.out.at_.lt
      · exact HS.out.hold.lt
      · simp [Value.ownBlock] at hbb
    · have : ∀ k, cf (fun _ => false) k = k := fun k => by induction k with
        | zero => rfl
        | succ k ih => simp [cf, ih]
      simp [this]
  clear ho hb HR
  go_wp2
  go_loopw [8] (fun vw wr => ∃ v h l wl, Ch w B N H A n c wr vw v h l wl ∧ CO au c h wl) (fun vw wr => 2 * cf (hw wr H) n + lenOf vw)
  case atStart => exact ⟨_, _, _, _, P0.out⟩
  case round =>
    obtain ⟨v, h, l, wl, hch, hco⟩ := hrel
    clear P0
    rcases List.eq_nil_or_concat wl with rfl | ⟨wl', p, rfl⟩
    · obtain ⟨a0, c0, rfl⟩ := own_form hch.wk
      have H0 := mkHid (And.intro hch hco)
      clear hch hco
      go_wp2
      go_end0
      exact ⟨rfl, v, h, l, H0.out.1.st, H0.out.2.fin, H0.out.1.fr⟩
    · rw [List.concat_eq_append] at hch hco
      obtain ⟨m, hm⟩ : ∃ m, wl'.length = m := ⟨_, rfl⟩
      have hrow := hch.wk
      rw [List.length_append, hm, List.length_singleton] at hrow
      rcases hrow.2 with ⟨_, h0⟩ | ⟨g0, cap, cur, rfl, hg0, hgg, hmc, hcm, hcs, htk⟩
      · omega
      have hcell : wr.cell? ⟨g0, m, none⟩ = some (.pointer (some ⟨A, p * 4, none⟩)) := by
        have := hrow.cells (g := g0) rfl m (nd A p) (by simp [hm])
        rwa [Addr.add_lit, Nat.zero_add] at this
      have hp : p < n := hch.lt p (by simp)
      have hm2 : m ≤ 2000 := by have h1 := hch.len; have h2 := hch.cnt; simp [hm] at h1; omega
      have hbw := hch.below hBw
      obtain ⟨aa, ac, hauW, haelW⟩ := HN.out.auth p hp
      have hau : wr.cell? ⟨A, p * 4 + 3, none⟩ = some (.slice aa (au p).length ac) := (hbw.cell (p := ⟨A, p * 4 + 3, none⟩) HN.out.hA).trans hauW
      have hln := HN.out.ln p hp
      have hx := run_index32 (some ⟨g0, 0, none⟩) g0 (m + 1) cap m rfl (by omega)
      have hcap : ((m + 1 : Nat) : Int) ≤ (cap : Int) := by omega
      have P1 : Hid (Ch w B N H A n c wr (.slice (some ⟨g0, 0, none⟩) m cap) v h l wl' ∧ CI au c h wl' p 0) := by
        refine ⟨⟨?_, hch.st, hch.dis, hch.far, hch.fr, hch.cnt, by have := hch.len; simp at this; omega, fun x hx => hch.lt x (by simp [hx])⟩, hco.pop⟩
        rw [hm]
        exact own_shrink (x := nd A p) (by simpa using hrow)
      have HM := mkHid hm
      have HAE := mkHid haelW
      have HH := mkHid (hw_of hch.st.hold)
      clear hch hco hm hrow hgg hcs htk haelW hauW hcm hbw
      go_wp2
      go_loopw [8, 33] (fun vw2 i wx => ∃ (j : Nat) (v2 : Value) (h2 : Nat → Bool) (l2 wl2 : List Nat), j ≤ (au p).length ∧ i = .int .i64 j ∧ Ch w B N H A n c wx vw2 v2 h2 l2 wl2 ∧ CI au c h2 wl2 p j ∧ wl2.length + cf h2 n = m + cf h n ∧ cf h2 n ≤ cf h n) (fun _ i _ => (au p).length - (intOf i).toNat)
      case atStart => exact ⟨0, _, _, _, _, Nat.zero_le _, rfl, P1.out.1, P1.out.2, by rw [HM.out], Nat.le_refl _⟩
      case round =>
        obtain ⟨j, v2, h2, l2, wl2, hj, rfl, hch, hci, hct, hcle⟩ := hrel
        clear P1 hau
        by_cases hjl : j < (au p).length
        · obtain ⟨q, hq⟩ : ∃ q, (au p)[j]? = some q := ⟨_, List.getElem?_eq_getElem hjl⟩
          have hqn : q < n := HN.out.lt p hp q (List.mem_of_getElem? hq)
          obtain ⟨gq, haa, hgB, hcq⟩ := HAE.out j q hq
          have hbx := hch.below hBw
          have hcx : wr.cell? ⟨gq, j, none⟩ = some (.pointer (some ⟨A, q * 4, none⟩)) := (hbx.cell (p := ⟨gq, j, none⟩) hgB).trans hcq
          have hix := run_index32 aa gq (au p).length ac j haa hjl
          have hjl' : (j : Int) < ((au p).length : Int) := by omega
          have hidx : wr.cell? ⟨A, q * 4 + 1, none⟩ = some (.int .i64 q) := (hbx.cell (p := ⟨A, q * 4 + 1, none⟩) HN.out.hA).trans (HN.out.idx q hqn)
          have hc0 : wr.cell? ⟨N, 0, none⟩ = some (.slice (some ⟨H, 0, none⟩) n n) := (hch.st.at_.cell 0).trans rfl
          have H1 := mkHid (And.intro hch hci)
          have HQ := mkHid hq
          have hszw : w.heap.size ≤ wr.heap.size := hch.fr.env.size
          have hlb : l2.length ≤ 255 ∧ wl2.length ≤ 2000 := by have h1 := hch.len; have h2 := hch.cnt; omega
          clear hch hci hq hbx haa hcq
          by_cases hh : h2 q = true
          · have HH2 := mkHid hh
            clear hh
            go_wp2_with fail
            refine (within_any _ _).mono ?_
            rintro e w2 ⟨rfl, hw2⟩
            subst hw2
            go_wp2_with fail
            refine (add_old N H A n q h2 _ hqn hc0 H1.out.1.st.hold hidx HH2.out).mono ?_
            rintro e w2 ⟨rfl, kk, hw2⟩
            subst hw2
            go_wp2
            go_roundw
            case rel => exact ⟨j + 1, v2, h2, l2, wl2, by omega, by go_num, H1.out.1.drewN _, H1.out.2.skip HQ.out HH2.out, hct, hcle⟩
            case measure => simp [intOf]; omega
          · have HH2 := mkHid (show h2 q = false by simpa using hh)
            clear hh
            go_wp2_with fail
            refine (within_any _ _).mono ?_
            rintro e w2 ⟨rfl, hw2⟩
            subst hw2
            go_wp2_with fail
            refine (add_new B N H A n q v2 h2 l2 _ hqn (by omega) HN.out.hA (by omega) H1.out.1.st hidx HH2.out).mono ?_
            rintro e w3 ⟨rfl, v3, hS3, hF3, hv3⟩
            have hszw3 : w.heap.size ≤ w3.heap.size := Nat.le_trans hszw hF3.env.size
            have H3 := mkHid (And.intro hS3 (And.intro hF3 hv3))
            obtain ⟨C2, hC2, _, _⟩ := H1.out.1.st.hold
            have hrow3 : w3.ownsRow w.heap.size 44 1 u8 wl2.length (wl2.map (nd A)) := own_keep H1.out.1.wk (fun g hg => hF3.block g (by obtain ⟨cur, hcur⟩ := own_at H1.out.1.wk hg; exact hcur.lt) (fun hx => by
              obtain ⟨cur, hcur⟩ := own_at H1.out.1.wk hg
              rcases hx with h0 | h0 | h0
              · exact At.ne hcur H1.out.1.st.at_ (by decide) h0
              · exact At.ne hcur hC2 (by decide) h0
              · exact H1.out.1.dis g hg h0))
            have HR3 := mkHid hrow3
            clear hS3 hF3 hv3 hC2 hrow3
            go_wp2_with (at_builtin; refine wpList_app rfl (.tmp 45) (.tmp 47) rfl w.heap.size w3 w3.heap.size rfl u8 wl2.length (wl2.map (nd A)) (nd A q) HR3.out rfl rfl rfl (by omega) hszw3 ?_)
            intro v4 w4 ho4 hg4 hv4
            have hct4 : (wl2 ++ [q]).length + cf (upd h2 q true) n = m + cf h n ∧ cf (upd h2 q true) n ≤ cf h n := by
              have := cf_upd h2 q HH2.out n hqn
              simp
              omega
            have H4 := mkHid (And.intro (H1.out.1.push hqn HH2.out H3.out.1 H3.out.2.1 H3.out.2.2 ho4 hg4 hv4) (H1.out.2.add HQ.out))
            have HT4 := mkHid hct4
            clear ho4 hg4 hv4 hct4
            go_wp2
            go_roundw
            case rel => exact ⟨j + 1, v3, upd h2 q true, l2 ++ [q], wl2 ++ [q], by omega, by go_num, H4.out.1, H4.out.2, HT4.out.1, HT4.out.2⟩
            case measure => simp [intOf]; omega
        · obtain rfl : j = (au p).length := by omega
          have H1 := mkHid (And.intro hch hci)
          clear hch hci
          go_wp2
          go_roundw
          case rel => exact ⟨_, _, _, _, H1.out.1, H1.out.2.done⟩
          case measure =>
            rw [HH.out, hw_of H1.out.1.st.hold]
            obtain ⟨a2, c2, e2⟩ := own_form H1.out.1.wk
            simp [e2, lenOf]
            omega
end Go.Proofs.Ybulkrsi
