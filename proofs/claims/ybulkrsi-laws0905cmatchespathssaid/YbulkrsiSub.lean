/-
  Seat b0905a. conflictedSubgraph (function 14): its closure (20), slices.IndexFunc (23), slices.ContainsFunc (19).
-/
import Derived.Test.YbulkrsiChain
namespace Go.Proofs.Ybulkrsi
open Go.RowKit

/-- What the closure reads: the conflicted set's bools, the row 'reaches'. -/
structure Cl (w : World) (K RV Hc RB A n : Nat) (hc r : Nat → Bool) : Prop where
  k0 : w.cell? ⟨K, 0, none⟩ = some (.slice (some ⟨Hc, 0, none⟩) n n)
  rv : w.cell? ⟨RV, 0, none⟩ = some (.slice (some ⟨RB, 0, none⟩) n n)
  hcb : Bools w Hc n hc
  rb : Bools w RB n r
  idx : ∀ p, p < n → w.cell? ⟨A, p * 4 + 1, none⟩ = some (.int .i64 p)
theorem Cl.drewN {w : World} {K RV Hc RB A n : Nat} {hc r : Nat → Bool} (h : Cl w K RV Hc RB A n hc r) (k : Nat) : Cl (w.drewN k) K RV Hc RB A n hc r := ⟨h.k0, h.rv, h.hcb, h.rb, h.idx⟩

set_option maxHeartbeats 1000000 in
set_option maxRecDepth 100000 in
theorem clos_any (K RV Hc RB A n q : Nat) (hc r : Nat → Bool) (w : World) (hq : q < n) (h : Cl w K RV Hc RB A n hc r) :
    Calls Yba.prog 20 #[nd A q, .pointer (some ⟨K, 0, none⟩), .pointer (some ⟨RV, 0, none⟩)] w fun e w' => e = .returned (.bool (hc q || r q)) ∧ ∃ k, w' = w.drewN k := by
  have hidx := h.idx q hq
  have hrv := h.rv
  have hrq := h.rb.cell q hq
  have hlt : (q : Int) < (n : Int) := by omega
  have HH := mkHid h
  have hhas := fun j => has_any K Hc A n q hc (w.drewN j) hq h.k0 h.hcb (h.idx q hq)
  have HA := mkHid hhas
  clear h hhas
  unfold nd
  cases hb : hc q
  · rw [hb] at HA
    clear hb
    go_enter Yba.func20, Yba.ntmps20
    go_wp2
    go_quiet ((go_at_call 18; exact Calls.quiet_of (HA.out _)))
    go_wp2
    go_ret
    exact ⟨by simp, _, rfl⟩
  · rw [hb] at HA
    clear hb
    go_enter Yba.func20, Yba.ntmps20
    go_wp2
    go_quiet ((go_at_call 18; exact Calls.quiet_of (HA.out _)))
    go_wp2
    go_ret
    exact ⟨by simp, _, rfl⟩

/-- A row of pointers to nodes, read. -/
def Ptrs (w : World) (A : Nat) (a : Option Addr) (l : List Nat) : Prop := ∀ j q, l[j]? = some q → ∃ g, a = some ⟨g, 0, none⟩ ∧ w.cell? ⟨g, j, none⟩ = some (nd A q)

set_option maxHeartbeats 1000000 in
set_option maxRecDepth 100000 in
theorem index_any (K RV Hc RB A n cap : Nat) (a : Option Addr) (l : List Nat) (hc r : Nat → Bool) (w : World) (hl : l.length ≤ 2000) (hln : ∀ q, q ∈ l → q < n) (h : Cl w K RV Hc RB A n hc r) (hp : Ptrs w A a l) :
    Calls Yba.prog 23 #[.slice a l.length cap, .func (.func 20) #[] #[.pointer (some ⟨K, 0, none⟩), .pointer (some ⟨RV, 0, none⟩)]] w fun e w' => ∃ z : Int, e = .returned (.int .i64 z) ∧ decide (0 ≤ z) = l.any (fun q => hc q || r q) ∧ ∃ k, w' = w.drewN k := by
  have HH := mkHid h
  have HP := mkHid hp
  clear h hp
  go_enter Yba.func23, Yba.ntmps23
  go_wp2
  go_loopw [8] (fun i wr => ∃ j k : Nat, j ≤ l.length ∧ i = .int .i64 j ∧ wr = w.drewN k ∧ ∀ x q, x < j → l[x]? = some q → (hc q || r q) = false) (fun i _ => l.length - (intOf i).toNat)
  case atStart => exact ⟨0, 0, Nat.zero_le _, rfl, rfl, fun x q hx => by omega⟩
  case round =>
    obtain ⟨j, k, hj, rfl, rfl, hno⟩ := hrel
    have HNO := mkHid hno
    clear hno
    by_cases hjl : j < l.length
    · obtain ⟨q, hq⟩ : ∃ q, l[j]? = some q := ⟨_, List.getElem?_eq_getElem hjl⟩
      have hqn : q < n := hln q (List.mem_of_getElem? hq)
      obtain ⟨g, ha, hcq⟩ := HP.out j q hq
      have hix := run_index32 a g l.length cap j ha hjl
      have hcx : w.cell? ⟨g, j, none⟩ = some (.pointer (some ⟨A, q * 4, none⟩)) := hcq
      have hjl' : (j : Int) < (l.length : Int) := by omega
      have HQ := mkHid hq
      clear hq ha hcq
      go_wp2_with fail
      refine (clos_any K RV Hc RB A n q hc r _ hqn (HH.out.drewN k)).mono ?_
      rintro e w1 ⟨rfl, k1, hw1⟩
      rw [World.drewN_drewN] at hw1
      subst hw1
      cases hb : (hc q || r q)
      · have HB := mkHid hb
        clear hb
        go_wp2
        go_roundw
        case rel => exact ⟨j + 1, k + k1, by omega, by go_num, rfl, fun x y hx hy => by
          by_cases e : x = j
          · subst e; rw [HQ.out] at hy; cases hy; exact HB.out
          · exact HNO.out x y (by omega) hy⟩
        case measure => simp [intOf]; omega
      · have HB := mkHid hb
        clear hb
        go_wp2
        go_ret
        refine ⟨j, rfl, ?_, _, rfl⟩
        have h1 : l.any (fun q => hc q || r q) = true := List.any_eq_true.2 ⟨q, List.mem_of_getElem? HQ.out, HB.out⟩
        rw [h1]
        simp
    · obtain rfl : j = l.length := by omega
      go_wp2
      go_ret
      refine ⟨-1, rfl, ?_, _, rfl⟩
      have h1 : l.any (fun q => hc q || r q) = false := List.any_eq_false.2 fun q hq => by
        obtain ⟨i, hi, e⟩ := List.getElem_of_mem hq
        have := HNO.out i q hi (by rw [List.getElem?_eq_getElem hi, e])
        simpa using this
      rw [h1]
      simp

theorem contains_any (K RV Hc RB A n cap : Nat) (a : Option Addr) (l : List Nat) (hc r : Nat → Bool) (w : World) (hl : l.length ≤ 2000) (hln : ∀ q, q ∈ l → q < n) (h : Cl w K RV Hc RB A n hc r) (hp : Ptrs w A a l) :
    Calls Yba.prog 19 #[.slice a l.length cap, .func (.func 20) #[] #[.pointer (some ⟨K, 0, none⟩), .pointer (some ⟨RV, 0, none⟩)]] w fun e w' => e = .returned (.bool (l.any (fun q => hc q || r q))) ∧ ∃ k, w' = w.drewN k := by
  have HI := mkHid (index_any K RV Hc RB A n cap a l hc r w hl hln h hp)
  clear h hp
  go_enter Yba.func19, Yba.ntmps19
  go_wp2_with fail
  refine HI.out.mono ?_
  rintro e w1 ⟨z, rfl, hz, k1, hw1⟩
  subst hw1
  have HZ := mkHid hz
  clear hz
  go_wp2
  go_ret
  exact ⟨by rw [← HZ.out]; rfl, _, rfl⟩

/-- The graph in memory. -/
structure Gr (w : World) (B G A n : Nat) (au : Nat → List Nat) (od : Nat → Nat) : Prop where
  hG : G < B
  nds : Nds w B A n au
  nodes : w.cell? ⟨G, 0, none⟩ = some (.slice (some ⟨A, 0, none⟩) n n)
  order : ∃ O c, O < B ∧ w.cell? ⟨G, 2, none⟩ = some (.slice (some ⟨O, 0, none⟩) n c) ∧ ∀ i, i < n → w.cell? ⟨O, i, none⟩ = some (nd A (od i))
theorem Gr.below {w w' : World} {B G A n : Nat} {au : Nat → List Nat} {od : Nat → Nat} (h : Gr w B G A n au od) (hb : Below B w w') : Gr w' B G A n au od := by
  obtain ⟨O, c, hO, h1, h2⟩ := h.order
  exact ⟨h.hG, h.nds.below hb, (hb.cell (p := ⟨G, 0, none⟩) h.hG).trans h.nodes, O, c, hO, (hb.cell (p := ⟨G, 2, none⟩) h.hG).trans h1, fun i hi => (hb.cell (p := ⟨O, i, none⟩) hO).trans (h2 i hi)⟩
theorem Nds.mono {w : World} {B B' A n : Nat} {au : Nat → List Nat} (h : Nds w B A n au) (hB : B ≤ B') : Nds w B' A n au :=
  ⟨by have := h.hA; omega, h.idx, fun p hp => by
    obtain ⟨a, c, h1, h2⟩ := h.auth p hp
    exact ⟨a, c, h1, fun j q hj => by obtain ⟨g, e, hg, hc⟩ := h2 j q hj; exact ⟨g, e, by omega, hc⟩⟩, h.lt, h.ln⟩

/-- The order: a numbering of the nodes in which each comes after its auth events. -/
structure Ord (n : Nat) (au : Nat → List Nat) (od : Nat → Nat) : Prop where
  lt : ∀ i, i < n → od i < n
  inj : ∀ i j, i < n → j < n → od i = od j → i = j
  surj : ∀ p, p < n → ∃ i, i < n ∧ od i = p
  after : ∀ i q, i < n → q ∈ au (od i) → ∃ k, k < i ∧ od k = q

open Classical in
/-- What the subgraph holds. -/
noncomputable def want (au : Nat → List Nat) (c : List Nat) (x : Nat) : Bool := decide ((∃ y, y ∈ c ∧ Pth au y x) ∧ (∃ y, y ∈ c ∧ Pth au x y) ∧ ¬ x ∈ c)

/-- The world inside the loop, at round i. -/
structure Lp (w4 : World) (B4 N2 H2 RB A n : Nat) (au : Nat → List Nat) (c : List Nat) (od : Nat → Nat) (h : Nat → Bool) (i : Nat) (wr : World) (v : Value) (hs r : Nat → Bool) (ls : List Nat) : Prop where
  st : SetAt wr B4 N2 H2 A n v hs ls
  rb : Bools wr RB n r
  far : ∀ g, v.ownBlock = some g → w4.heap.size ≤ g
  fr : Fr (fun b => b = N2 ∨ b = H2 ∨ b = RB) w4 wr
  rd : ∀ k, k < i → (r (od k) = true ↔ h (od k) = true ∧ ∃ y, y ∈ c ∧ Pth au (od k) y)
  ru : ∀ k, i ≤ k → k < n → r (od k) = false
  sd : ∀ k, k < i → hs (od k) = want au c (od k)
  su : ∀ k, i ≤ k → k < n → hs (od k) = false
  ls_ : ls = ((List.range i).map od).filter (want au c)

theorem want_true {au : Nat → List Nat} {c : List Nat} {x : Nat} : want au c x = true ↔ (∃ y, y ∈ c ∧ Pth au y x) ∧ (∃ y, y ∈ c ∧ Pth au x y) ∧ ¬ x ∈ c := by unfold want; simp
theorem want_false {au : Nat → List Nat} {c : List Nat} {x : Nat} (h : ¬ ((∃ y, y ∈ c ∧ Pth au y x) ∧ (∃ y, y ∈ c ∧ Pth au x y) ∧ ¬ x ∈ c)) : want au c x = false := by
  cases hb : want au c x
  · rfl
  · exact absurd (want_true.1 hb) h

theorem Lp.step {w4 wr wr' : World} {B4 N2 H2 RB A n : Nat} {au : Nat → List Nat} {c : List Nat} {od : Nat → Nat} {h : Nat → Bool} {i : Nat} {v v' : Value} {hs r hs' r' : Nat → Bool} {ls ls' : List Nat} (L : Lp w4 B4 N2 H2 RB A n au c od h i wr v hs r ls) (hi : i < n) (hO : Ord n au od)
    (st' : SetAt wr' B4 N2 H2 A n v' hs' ls') (rb' : Bools wr' RB n r') (far' : ∀ g, v'.ownBlock = some g → w4.heap.size ≤ g) (fr' : Fr (fun b => b = N2 ∨ b = H2 ∨ b = RB) w4 wr')
    (hr1 : r' (od i) = true ↔ h (od i) = true ∧ ∃ y, y ∈ c ∧ Pth au (od i) y) (hr2 : ∀ x, x ≠ od i → r' x = r x) (hs1 : hs' (od i) = want au c (od i)) (hs2 : ∀ x, x ≠ od i → hs' x = hs x) (hl : ls' = if want au c (od i) = true then ls ++ [od i] else ls) :
    Lp w4 B4 N2 H2 RB A n au c od h (i + 1) wr' v' hs' r' ls' := by
  have hne : ∀ k, k < n → k ≠ i → od k ≠ od i := fun k hk hki e => hki (hO.inj k i hk hi e)
  refine ⟨st', rb', far', fr', fun k hk => ?_, fun k hk hkn => ?_, fun k hk => ?_, fun k hk hkn => ?_, ?_⟩
  · by_cases e : k = i
    · subst e; exact hr1
    · rw [hr2 _ (hne k (by omega) e)]; exact L.rd k (by omega)
  · rw [hr2 _ (hne k hkn (by omega))]; exact L.ru k (by omega) hkn
  · by_cases e : k = i
    · subst e; exact hs1
    · rw [hs2 _ (hne k (by omega) e)]; exact L.sd k (by omega)
  · rw [hs2 _ (hne k hkn (by omega))]; exact L.su k (by omega) hkn
  · rw [hl, L.ls_, List.range_succ, List.map_append, List.filter_append]
    cases hw : want au c (od i) <;> simp [hw]

/-- The closure over the auth events of node i answers whether a path leads to c. -/
theorem any_iff {n : Nat} {au : Nat → List Nat} {c : List Nat} {od : Nat → Nat} {h hc r : Nat → Bool} {i : Nat} (hi : i < n) (hO : Ord n au od) (hlt : ∀ p, p < n → ∀ q, q ∈ au p → q < n) (hh : ∀ x, h x = true ↔ ∃ y, y ∈ c ∧ Pth au y x) (hcc : ∀ x, x < n → (hc x = true ↔ x ∈ c))
    (rd : ∀ k, k < i → (r (od k) = true ↔ h (od k) = true ∧ ∃ y, y ∈ c ∧ Pth au (od k) y)) (hp : h (od i) = true) : (au (od i)).any (fun q => hc q || r q) = true ↔ ∃ y, y ∈ c ∧ Pth au (od i) y := by
  rw [List.any_eq_true]
  constructor
  · rintro ⟨q, hq, hv⟩
    rcases (Bool.or_eq_true _ _).mp hv with h1 | h1
    · exact ⟨q, (hcc q (hlt _ (hO.lt i hi) q hq)).1 h1, .one hq⟩
    · obtain ⟨k, hk, rfl⟩ := hO.after i q hi hq
      obtain ⟨_, y, hy, hpy⟩ := (rd k hk).1 h1
      exact ⟨y, hy, .step hq hpy⟩
  · rintro ⟨y, hy, hpy⟩
    obtain ⟨q, hq, e⟩ := hpy.first
    refine ⟨q, hq, (Bool.or_eq_true _ _).mpr ?_⟩
    rcases e with rfl | e
    · exact .inl ((hcc q (hlt _ (hO.lt i hi) q hq)).2 hy)
    · obtain ⟨k, hk, rfl⟩ := hO.after i q hi hq
      obtain ⟨y0, hy0, hp0⟩ := (hh _).1 hp
      exact .inr ((rd k hk).2 ⟨(hh _).2 ⟨y0, hy0, hp0.snoc hq⟩, y, hy, e⟩)

theorem Lp.drewN {w4 wr : World} {B4 N2 H2 RB A n : Nat} {au : Nat → List Nat} {c : List Nat} {od : Nat → Nat} {h : Nat → Bool} {i : Nat} {v : Value} {hs r : Nat → Bool} {ls : List Nat} (L : Lp w4 B4 N2 H2 RB A n au c od h i wr v hs r ls) (k : Nat) : Lp w4 B4 N2 H2 RB A n au c od h i (wr.drewN k) v hs r ls :=
  ⟨L.st.keep (fun _ _ => rfl), L.rb.keep rfl, L.far, L.fr.drewN k, L.rd, L.ru, L.sd, L.su, L.ls_⟩

/-- What the loop only reads. -/
structure Env (wx : World) (b G A n Hc N1 H1 RV RB : Nat) (au : Nat → List Nat) (od : Nat → Nat) (hc h : Nat → Bool) (nv v1 : Value) : Prop where
  gr : Gr wx b G A n au od
  kat : At wx b (.cells #[.slice (some ⟨Hc, 0, none⟩) n n, nv] 46 (0, 0))
  hcb : Bools wx Hc n hc
  hcl : Hc < b
  n1 : At wx N1 (.cells #[.slice (some ⟨H1, 0, none⟩) n n, v1] 46 (0, 0))
  h1 : Bools wx H1 n h
  rv : At wx RV (.cells #[.slice (some ⟨RB, 0, none⟩) n n] 41 (0, 0))
  lb : b < RB
  l1 : N1 < RB
  l2 : H1 < RB
theorem Env.fr {w5 wr : World} {b G A n Hc N1 H1 RV RB : Nat} {au : Nat → List Nat} {od : Nat → Nat} {hc h : Nat → Bool} {nv v1 : Value} {X : Nat → Prop} (e : Env w5 b G A n Hc N1 H1 RV RB au od hc h nv v1) (f : Fr X w5 wr) (hX : ∀ y, X y → RB ≤ y ∧ y ≠ RV) : Env wr b G A n Hc N1 H1 RV RB au od hc h nv v1 := by
  have hlb := e.lb
  have hl1 := e.l1
  have hl2 := e.l2
  have hhc := e.hcl
  have hb : Below b w5 wr := f.below (Nat.le_of_lt e.kat.lt) (fun y hy hx => by have := hX y hx; omega)
  exact ⟨e.gr.below hb, f.at e.kat (fun hx => by have := hX _ hx; omega), e.hcb.below hb hhc, hhc, f.at e.n1 (fun hx => by have := hX _ hx; omega), e.h1.keep (f.block _ e.h1.lt (fun hx => by have := hX _ hx; omega)), f.at e.rv (fun hx => (hX _ hx).2 rfl), hlb, hl1, hl2⟩

set_option maxHeartbeats 4000000 in
set_option maxRecDepth 100000 in
theorem sub_any (B' G A n Hc : Nat) (au : Nat → List Nat) (od : Nat → Nat) (c : List Nat) (hc : Nat → Bool) (nv : Value) (w : World) (hn : n ≤ 255) (hcl : c.length ≤ 1000) (hcn : ∀ x, x ∈ c → x < n) (hcc : ∀ x, x < n → (hc x = true ↔ x ∈ c)) (hO : Ord n au od)
    (hG : Gr w w.heap.size G A n au od) (hHc : Bools w Hc n hc) (hr : w.ownsRow B' 44 1 nv c.length (c.map (nd A))) :
    Calls Yba.prog 14 #[.pointer (some ⟨G, 0, none⟩), .agg #[.slice (some ⟨Hc, 0, none⟩) n n, nv]] w fun e w' => ∃ H2 v hs ls, e = .returned (.agg #[.slice (some ⟨H2, 0, none⟩) n n, v]) ∧
      Bools w' H2 n hs ∧ w'.ownsRow w.heap.size 44 1 v ls.length (ls.map (nd A)) ∧ (∀ p, p < n → hs p = want au c p) ∧ ls = ((List.range n).map od).filter (want au c) ∧ Below w.heap.size w w' ∧ w.heap.size ≤ H2 := by
  have HG := mkHid hG
  have HR := mkHid hr
  have HHc := mkHid hHc
  have hGlt := hG.hG
  have hg0 := hG.nodes
  obtain ⟨na, ncap, rfl⟩ := own_form hr
  clear hG hr hHc
  go_enter Yba.func14, Yba.ntmps14
  go_wp2_with fail
  obtain ⟨wA, hwA⟩ : ∃ wA, ((w.alloc (.cells #[.slice (some ⟨Hc, 0, none⟩) n n, .slice na c.length ncap] 46)).alloc (.cells #[.slice none 0 0, .slice none 0 0] 46)) = wA := ⟨_, rfl⟩
  rw [hwA]
  have hsA : wA.heap.size = w.heap.size + 2 := by rw [← hwA]; simp
  have hbA : Below w.heap.size w wA := by rw [← hwA]; exact ((Below.refl _ _).alloc (Nat.le_refl _) _).alloc (by simp) _
  have hkA : At wA w.heap.size (.cells #[.slice (some ⟨Hc, 0, none⟩) n n, .slice na c.length ncap] 46 (0, 0)) := by rw [← hwA]; exact At.alloc (At.new _ _) _
  have hrA : At wA (w.heap.size + 1) (.cells #[.slice none 0 0, .slice none 0 0] 46 (0, 0)) := by
    rw [← hwA]
    have := At.new (w.alloc (.cells #[.slice (some ⟨Hc, 0, none⟩) n n, .slice na c.length ncap] 46)) (.cells #[.slice none 0 0, .slice none 0 0] 46)
    rwa [World.size_alloc] at this
  clear hwA
  refine (newSet_any G A n hn wA ((hbA.cell (p := ⟨G, 0, none⟩) hGlt).trans hg0)).mono ?_
  rintro e w1 ⟨H1, rfl, hH1, hB1, hb1⟩
  rw [hsA] at hH1 hb1
  have hs1 : w.heap.size + 2 ≤ w1.heap.size := by have := hb1.size; omega
  have hbw1 : Below w.heap.size w w1 := hbA.trans (hb1.mono (by omega))
  have hk1 := hkA.below hb1 (by omega)
  have hr1 := hrA.below hb1 (by omega)
  have d1 : w1.cell? ⟨w.heap.size, 1, none⟩ = some (.slice na c.length ncap) := (hk1.cell 1).trans rfl
  have hH1l := hB1.lt
  have HB1 := mkHid hB1
  have HBW1 := mkHid hbw1
  have HK1 := mkHid hk1
  have HR1 := mkHid hr1
  clear hB1 hbw1 hk1 hr1 hb1 hbA hkA hrA hsA hg0
  have hlt1 : w.heap.size < w1.heap.size := by omega
  go_wp2_with fail
  have hbw2 : Below w.heap.size w (w1.alloc (.cells #[.slice (some ⟨H1, 0, none⟩) n n, .slice none 0 0] 46)) := HBW1.out.alloc (by omega) _
  have hst2 : SetAt (w1.alloc (.cells #[.slice (some ⟨H1, 0, none⟩) n n, .slice none 0 0] 46)) (w.heap.size + 2) w1.heap.size H1 A n (.slice none 0 0) (fun _ => false) [] :=
    ⟨by omega, hH1, At.new _ _, HB1.out.keep (Below.heap_alloc _ _ _ hH1l), World.ownsRow_nil _ _ _ _⟩
  refine (chain_any (w.heap.size + 2) B' w1.heap.size H1 A n au c _ _ (w1.alloc (.cells #[.slice (some ⟨H1, 0, none⟩) n n, .slice none 0 0] 46)) hn hcl hcn (by simp; omega) ((HG.out.nds.below hbw2).mono (by omega)) hst2 (own_keep HR.out (fun g hg => hbw2.block g (by obtain ⟨cur, hcur⟩ := own_at HR.out hg; exact hcur.lt)))).mono ?_
  rintro e w2 ⟨rfl, v1, h, l1, hS1, hh, hF1⟩
  obtain ⟨N1, hN1⟩ : ∃ N1, w1.heap.size = N1 := ⟨_, rfl⟩
  rw [hN1] at hS1 hF1 ⊢
  have hN1b : w.heap.size + 2 ≤ N1 := by omega
  have hs2 : N1 + 1 ≤ w2.heap.size := by have := hF1.env.size; simp at this; omega
  have hbw2' : Below w.heap.size w w2 := hbw2.trans (hF1.below (by simp; omega) (fun b hb hx => by omega))
  have hk2 : At w2 w.heap.size (.cells #[.slice (some ⟨Hc, 0, none⟩) n n, .slice na c.length ncap] 46 (0, 0)) := hF1.at (At.alloc HK1.out _) (fun hx => by omega)
  have hr2 : At w2 (w.heap.size + 1) (.cells #[.slice none 0 0, .slice none 0 0] 46 (0, 0)) := hF1.at (At.alloc HR1.out _) (fun hx => by omega)
  have g2 : w2.cell? ⟨G, 0, none⟩ = some (.slice (some ⟨A, 0, none⟩) n n) := (hbw2'.cell (p := ⟨G, 0, none⟩) hGlt).trans HG.out.nodes
  have hG2 : G < w2.heap.size := by omega
  have hm := run_madeB n (by omega)
  have H2_ := mkHid (And.intro hS1 (And.intro hh (And.intro hbw2' (And.intro hk2 hr2))))
  have hH1b : H1 < w2.heap.size := hS1.hold.lt
  clear hS1 hh hF1 hbw2' hk2 hr2 HB1 HBW1 HK1 HR1 hst2 hbw2 d1 hlt1 hs1
  go_wp2_with fail
  obtain ⟨w3, hw3⟩ : ∃ w3, ((w2.alloc (.cells (madeB n) 4)).alloc (.cells #[.slice (some ⟨w2.heap.size, 0, none⟩) n n] 41)) = w3 := ⟨_, rfl⟩
  rw [hw3]
  have hs3 : w3.heap.size = w2.heap.size + 2 := by rw [← hw3]; simp
  have hb3 : Below w2.heap.size w2 w3 := by rw [← hw3]; exact ((Below.refl _ _).alloc (Nat.le_refl _) _).alloc (by simp) _
  have hrb3 : Bools w3 w2.heap.size n (fun _ => false) := by
    rw [← hw3]
    exact (bools_new n w2).keep (Below.heap_alloc _ _ _ (by simp))
  have hrv3 : At w3 (w2.heap.size + 1) (.cells #[.slice (some ⟨w2.heap.size, 0, none⟩) n n] 41 (0, 0)) := by
    rw [← hw3]
    have := At.new (w2.alloc (.cells (madeB n) 4)) (.cells #[.slice (some ⟨w2.heap.size, 0, none⟩) n n] 41)
    rwa [World.size_alloc] at this
  clear hw3
  refine (newSet_any G A n hn w3 ((hb3.cell (p := ⟨G, 0, none⟩) hG2).trans g2)).mono ?_
  rintro e w4 ⟨H2, rfl, hH2, hB2, hb4⟩
  rw [hs3] at hH2 hb4
  have hs4 : w2.heap.size + 2 ≤ w4.heap.size := by have := hb4.size; omega
  have hb24 : Below w2.heap.size w2 w4 := hb3.trans (hb4.mono (by omega))
  have hbw4 : Below w.heap.size w w4 := H2_.out.2.2.1.trans (hb24.mono (by omega))
  obtain ⟨RB, hRB⟩ : ∃ RB, w2.heap.size = RB := ⟨_, rfl⟩
  have hN1lt := H2_.out.1.at_.lt
  have hEnv4 : Env w4 w.heap.size G A n Hc N1 H1 (RB + 1) RB au od hc h (.slice na c.length ncap) v1 := by
    rw [← hRB]
    exact ⟨HG.out.below hbw4, H2_.out.2.2.2.1.below hb24 (by omega), HHc.out.below hbw4 HHc.out.lt, HHc.out.lt, H2_.out.1.at_.below hb24 hN1lt, H2_.out.1.hold.below hb24 hH1b, hrv3.below hb4 (by omega), by omega, hN1lt, hH1b⟩
  have hrb4 : Bools w4 RB n (fun _ => false) := by rw [← hRB]; exact hrb3.below hb4 (by omega)
  have hr4 : At w4 (w.heap.size + 1) (.cells #[.slice none 0 0, .slice none 0 0] 46 (0, 0)) := H2_.out.2.2.2.2.below hb24 (by omega)
  obtain ⟨O, oc, hOl, hO2, hOe⟩ := hEnv4.gr.order
  have hG4 : G < w4.heap.size := by omega
  have hH2l := hB2.lt
  have HH := mkHid H2_.out.2.1
  have HE4 := mkHid hEnv4
  have HRB4 := mkHid hrb4
  have HR4 := mkHid hr4
  have HB2 := mkHid hB2
  have HBW4 := mkHid hbw4
  rw [hRB] at hH2 hs4 ⊢
  clear hEnv4 hrb4 hr4 hB2 hbw4 hb24 hb4 hb3 hrb3 hrv3 hs3 H2_ g2 hG2 hm hN1lt hs2
  go_wp2
  obtain ⟨w5, hw5⟩ : ∃ w5, (w4.alloc (.cells #[.slice (some ⟨H2, 0, none⟩) n n, .slice none 0 0] 46)) = w5 := ⟨_, rfl⟩
  obtain ⟨N2, hN2⟩ : ∃ N2, w4.heap.size = N2 := ⟨_, rfl⟩
  rw [hw5, hN2]
  have hb5 : Below w4.heap.size w4 w5 := by rw [← hw5]; exact (Below.refl _ _).alloc (Nat.le_refl _) _
  have hF5 : Fr (fun _ => False) w4 w5 := ⟨hb5.mono (Nat.zero_le _), fun b hb _ => hb5.block b hb⟩
  have HE5 := mkHid (HE4.out.fr hF5 (fun _ hx => hx.elim))
  have HR5 := mkHid (hF5.at HR4.out (fun hx => hx))
  have HBW5 := mkHid (HBW4.out.trans (hb5.mono (by omega)))
  have hs5 : w5.heap.size = N2 + 1 := by rw [← hw5]; simp [hN2]
  have PL : Hid (Lp w5 (RB + 2) N2 H2 RB A n au c od h 0 w5 (.slice none 0 0) (fun _ => false) (fun _ => false) []) := by
    refine ⟨⟨by omega, hH2, ?_, HB2.out.keep (hb5.block _ hH2l), World.ownsRow_nil _ _ _ _⟩, HRB4.out.keep (hb5.block _ HRB4.out.lt), fun g hg => by simp [Value.ownBlock] at hg, Fr.refl _ _, fun k hk => by omega, fun k _ _ => rfl, fun k hk => by omega, fun k _ _ => rfl, rfl⟩
    rw [← hw5, ← hN2]; exact At.new _ _
  have hN2b : RB + 2 ≤ N2 := by omega
  have hH2b : RB + 2 ≤ H2 := hH2
  have hOe5 : ∀ wx, Fr (fun b => b = N2 ∨ b = H2 ∨ b = RB) w5 wx → ∀ i, i < n → wx.cell? ⟨O, i, none⟩ = some (nd A (od i)) := fun wx hf i hi => by
    have hb : Below w.heap.size w5 wx := hf.below (by omega) (fun y hy hx => by have := HE4.out.lb; omega)
    rw [hb.cell (p := ⟨O, i, none⟩) hOl, hb5.cell (p := ⟨O, i, none⟩) (by show O < _; omega)]
    exact hOe i hi
  have HOE := mkHid hOe5
  have hszw : w.heap.size < N2 := by omega
  clear hw5 hb5 hF5 hOe5 hOe hO2 HE4 HR4 HBW4 HB2 HRB4 hH2l hG4
  go_loopw [29] (fun ix wr => ∃ (i : Nat) (v : Value) (hs r : Nat → Bool) (ls : List Nat), i ≤ n ∧ ix = .int .i64 i ∧ Lp w5 (RB + 2) N2 H2 RB A n au c od h i wr v hs r ls) (fun ix _ => n - (intOf ix).toNat)
  case atStart => exact ⟨0, _, _, _, _, Nat.zero_le _, rfl, PL.out⟩
  case round =>
    obtain ⟨i, v, hs, r, ls, hi, rfl, hL⟩ := hrel
    clear PL
    have hEr := HE5.out.fr hL.fr (fun y hy => by omega)
    by_cases hin : i < n
    · obtain ⟨p, hpe⟩ : ∃ p, od i = p := ⟨_, rfl⟩
      have hp : p < n := by rw [← hpe]; exact hO.lt i hin
      have hix := run_index32 (some ⟨O, 0, none⟩) O n oc i rfl hin
      have hcx : wr.cell? ⟨O, i, none⟩ = some (.pointer (some ⟨A, p * 4, none⟩)) := by rw [← hpe]; exact HOE.out wr hL.fr i hin
      have hin' : (i : Int) < (n : Int) := by omega
      have hidx := hEr.gr.nds.idx p hp
      have hn10 : wr.cell? ⟨N1, 0, none⟩ = some (.slice (some ⟨H1, 0, none⟩) n n) := (hEr.n1.cell 0).trans rfl
      have HER := mkHid hEr
      have HL := mkHid hL
      have HPE := mkHid hpe
      clear hEr hL hpe
      go_wp2_with fail
      refine (has_any N1 H1 A n p h wr hp hn10 HER.out.h1 hidx).mono ?_
      rintro e wq ⟨rfl, k1, hwq⟩
      subst hwq
      cases hb : h p
      · have HB := mkHid hb
        clear hb
        go_wp2
        go_roundw
        case rel =>
          refine ⟨i + 1, v, hs, r, ls, by omega, by go_num, (HL.out.step hin hO HL.out.st HL.out.rb HL.out.far HL.out.fr ?_ (fun _ _ => rfl) ?_ (fun _ _ => rfl) ?_).drewN _⟩
          · rw [HPE.out, HB.out, ← HPE.out, HL.out.ru i (Nat.le_refl _) hin]; simp
          · rw [HL.out.su i (Nat.le_refl _) hin]
            exact (want_false (fun hx => by have := (HH.out (od i)).2 hx.1; rw [HPE.out, HB.out] at this; cases this)).symm
          · rw [if_neg (fun hx => by have := (HH.out (od i)).2 (want_true.1 hx).1; rw [HPE.out, HB.out] at this; cases this)]
        case measure => simp [intOf]; omega
      · have HB := mkHid hb
        clear hb
        have hrv : wr.cell? ⟨RB + 1, 0, none⟩ = some (.slice (some ⟨RB, 0, none⟩) n n) := (HER.out.rv.cell 0).trans rfl
        obtain ⟨aa, ac, hau, hael⟩ := HER.out.gr.nds.auth p hp
        have hPt : Ptrs wr A aa (au p) := fun j q hj => by obtain ⟨g, e, _, hc'⟩ := hael j q hj; exact ⟨g, e, hc'⟩
        have hCl : Cl wr w.heap.size (RB + 1) Hc RB A n hc r := ⟨(HER.out.kat.cell 0).trans rfl, hrv, HER.out.hcb, HL.out.rb, HER.out.gr.nds.idx⟩
        have HPT := mkHid hPt
        have HCl := mkHid hCl
        have hln := HER.out.gr.nds.ln p hp
        have hltn := mkHid (HER.out.gr.nds.lt p hp)
        have hrp := HL.out.rb.cell p hp
        have hrf := HL.out.rb.free p
        have hRA : RB ≠ A := by have h1 := HER.out.gr.nds.hA; have h2 := HER.out.lb; omega
        have hRA' : A ≠ RB := Ne.symm hRA
        have hmf : ∀ (fn : Fn) (first cap : Array Value) (w : World), (Instr.makeFunc fn first cap).run Yba.prog w = .ok (.func fn first cap) w := fun _ _ _ _ => rfl
        have hplt : (p : Int) < (n : Int) := by omega
        clear hPt hCl hael
        go_wp2
        go_region_held3 (fun w' => w'.cell? ⟨RB + 1, 0, none⟩ = some (.slice (some ⟨RB, 0, none⟩) n n) ∧ w'.cell? ⟨A, p * 4 + 1, none⟩ = some (.int .i64 p) ∧ w'.cell? ⟨A, p * 4 + 3, none⟩ = some (.slice aa (au p).length ac))
          ((first | (simp [*]; done) | (refine ⟨(World.cell?_setCell_far _ _ _ _ (by simp)).trans ?_, (World.cell?_setCell_far _ _ _ _ hRA).trans ?_, (World.cell?_setCell_far _ _ _ _ hRA).trans ?_⟩ <;> simp [*]; done) | fail))
          ((first | (go_at_call 19; refine (contains_any w.heap.size (RB + 1) Hc RB A n ac aa (au p) hc r _ hln hltn.out ?_ ?_).mono ?_; exact (HCl.out.drewN _); exact HPT.out; rintro e wq ⟨rfl, k2, hwq⟩; subst hwq) | fail))
        have hval : (au p).any (fun q => hc q || r q) = true ↔ ∃ y, y ∈ c ∧ Pth au p y := by
          have := any_iff hin hO HER.out.gr.nds.lt HH.out hcc HL.out.rd (by rw [HPE.out]; exact HB.out)
          rwa [HPE.out] at this
        generalize (au p).any (fun q => hc q || r q) = val at hval ⊢
        obtain ⟨w6, hw6⟩ : ∃ w6, ((wr.drewN (k1 + 1 + k2)).setCell ⟨RB, p, none⟩ (.bool val)) = w6 := ⟨_, rfl⟩
        rw [hw6]
        have hF6 : Fr (fun b => b = N2 ∨ b = H2 ∨ b = RB) w5 w6 := by rw [← hw6]; exact (HL.out.fr.drewN _).set _ _ (.inr (.inr rfl))
        have hst6 : SetAt w6 (RB + 2) N2 H2 A n v hs ls := HL.out.st.keep (fun b hb => by
          rw [← hw6]
          refine heap_setCell_other _ _ _ _ ?_
          rcases hb with rfl | rfl | hb
          · show b ≠ RB; omega
          · show b ≠ RB; omega
          · have := (HL.out.st.rowNe b hb).2.2.1; show b ≠ RB; omega)
        have hrb6 : Bools w6 RB n (upd r p val) := by rw [← hw6]; exact Bools.set (w := wr.drewN (k1 + 1 + k2)) HL.out.rb p val
        have hE6 := HE5.out.fr hF6 (fun y hy => by omega)
        have i6 := hE6.gr.nds.idx p hp
        have r6 : w6.cell? ⟨RB + 1, 0, none⟩ = some (.slice (some ⟨RB, 0, none⟩) n n) := (hE6.rv.cell 0).trans rfl
        have b6 : w6.cell? ⟨RB, p, none⟩ = some (.bool val) := by rw [hrb6.cell p hp, upd_same]
        have HS6 := mkHid (And.intro hF6 (And.intro hst6 (And.intro hrb6 hE6)))
        have HVAL := mkHid hval
        have hstep : ∀ (wn : World) (v' : Value) (hs' : Nat → Bool) (ls' : List Nat), SetAt wn (RB + 2) N2 H2 A n v' hs' ls' → Bools wn RB n (upd r p val) → (∀ g, v'.ownBlock = some g → w5.heap.size ≤ g) → Fr (fun b => b = N2 ∨ b = H2 ∨ b = RB) w5 wn →
            hs' p = want au c p → (∀ x, x ≠ p → hs' x = hs x) → (ls' = if want au c p = true then ls ++ [p] else ls) → Lp w5 (RB + 2) N2 H2 RB A n au c od h (i + 1) wn v' hs' (upd r p val) ls' := fun wn v' hs' ls' a1 a2 a3 a4 a5 a6 a7 =>
          HL.out.step hin hO a1 a2 a3 a4 (by rw [HPE.out, upd_same, HB.out, HVAL.out]; simp) (fun x hx => upd_other r val (by rw [← HPE.out]; exact hx)) (by rw [HPE.out]; exact a5) (fun x hx => a6 x (by rw [← HPE.out]; exact hx)) (by rw [HPE.out]; exact a7)
        have HST := mkHid hstep
        have hsp : hs p = false := by rw [← HPE.out]; exact HL.out.su i (Nat.le_refl _) hin
        have HSP := mkHid hsp
        have hlsl : ls.length ≤ 1000 := by
          rw [HL.out.ls_]
          have := List.length_filter_le (want au c) ((List.range i).map od)
          simp at this
          omega
        clear hw6 hF6 hst6 hrb6 hE6 hstep hsp hval hrv hau hcx hidx hn10 hrp hrf HPT HCl
        rename_i hHeld
        clear hHeld
        cases val
        · go_wp2
          go_quiet (fail)
          go_wp2
          go_roundw
          case rel =>
            have hw : want au c p = false := want_false (fun hx => by have := HVAL.out.2 hx.2.1; cases this)
            refine ⟨i + 1, v, hs, upd r p false, ls, by omega, by go_num, (HST.out w6 v hs ls HS6.out.2.1 HS6.out.2.2.1 HL.out.far HS6.out.1 (by rw [HSP.out, hw]) (fun _ _ => rfl) (by rw [hw]; rfl)).drewN _⟩
          case measure => simp [intOf]; omega
        · have hhas := mkHid (fun j => has_any w.heap.size Hc A n p hc (w6.drewN j) hp ((HS6.out.2.2.2.kat.cell 0).trans rfl) HS6.out.2.2.2.hcb i6)
          have hTp : ∃ y, y ∈ c ∧ Pth au p y := HVAL.out.1 rfl
          have hFp : ∃ y, y ∈ c ∧ Pth au y p := (HH.out p).1 HB.out
          have HTF := mkHid (And.intro hTp hFp)
          clear hTp hFp
          cases hb2 : hc p
          · have hpc : ¬ p ∈ c := fun hx => by have := (hcc p hp).2 hx; rw [hb2] at this; cases this
            have HPC := mkHid hpc
            rw [hb2] at hhas
            clear hb2 hpc
            go_wp2
            go_quiet ((go_at_call 18; exact Calls.quiet_of (hhas.out _)))
            go_wp2_with fail
            refine (add_new (RB + 2) N2 H2 A n p v hs ls _ hp hlsl ?_ ?_ ?_ ?_ HSP.out).mono ?_
            · have h1 := HS6.out.2.2.2.gr.nds.hA; have h2 := HS6.out.2.2.2.lb; omega
            · have := HS6.out.1.env.size; simp; omega
            · exact HS6.out.2.1.keep (fun _ _ => rfl)
            · exact i6
            rintro e w7 ⟨rfl, v7, hS7, hF7, hv7⟩
            have hfar := HL.out.far
            have hF7' : Fr (fun b => b = N2 ∨ b = H2 ∨ b = RB) w5 w7 := (HS6.out.1.drewN _).trans2 hF7 (fun b hb hy => by
              rcases hy with h0 | h0 | h0
              · exact .inl h0
              · exact .inr (.inl h0)
              · have := hfar b h0; omega)
            have hrb7 : Bools w7 RB n (upd r p true) := HS6.out.2.2.1.keep (hF7.block RB HS6.out.2.2.1.lt (fun hy => by
              rcases hy with h0 | h0 | h0
              · omega
              · omega
              · have := (HS6.out.2.1.rowNe RB h0).2.2.1; omega))
            have hfar7 : ∀ g, v7.ownBlock = some g → w5.heap.size ≤ g := fun g hg => by
              rcases hv7 with h0 | ⟨g', h0, hge⟩
              · exact hfar g (h0 ▸ hg)
              · rw [hg] at h0
                cases h0
                exact Nat.le_trans HS6.out.1.env.size hge
            have hw : want au c p = true := want_true.2 ⟨HTF.out.2, HTF.out.1, HPC.out⟩
            have HL7 := mkHid (HST.out w7 v7 (upd hs p true) (ls ++ [p]) hS7 hrb7 hfar7 hF7' (by rw [upd_same, hw]) (fun x hx => upd_other hs true hx) (by rw [hw]; rfl))
            clear hS7 hF7 hv7 hF7' hrb7 hfar7 hw hfar
            go_wp2
            go_roundw
            case rel => exact ⟨i + 1, v7, upd hs p true, upd r p true, ls ++ [p], by omega, by go_num, HL7.out⟩
            case measure => simp [intOf]; omega
          · have HPC := mkHid ((hcc p hp).1 hb2)
            rw [hb2] at hhas
            clear hb2
            go_wp2
            go_quiet ((go_at_call 18; exact Calls.quiet_of (hhas.out _)))
            go_wp2
            go_roundw
            case rel =>
              have hw : want au c p = false := want_false (fun hx => hx.2.2 HPC.out)
              refine ⟨i + 1, v, hs, upd r p true, ls, by omega, by go_num, (HST.out w6 v hs ls HS6.out.2.1 HS6.out.2.2.1 HL.out.far HS6.out.1 (by rw [HSP.out, hw]) (fun _ _ => rfl) (by rw [hw]; rfl)).drewN _⟩
            case measure => simp [intOf]; omega
    · obtain rfl : i = n := by omega
      obtain ⟨va, vc, rfl⟩ := own_form hL.st.row
      have n20 : wr.cell? ⟨N2, 0, none⟩ = some (.slice (some ⟨H2, 0, none⟩) i i) := (hL.st.at_.cell 0).trans rfl
      have n21 : wr.cell? ⟨N2, 1, none⟩ = some (.slice va ls.length vc) := (hL.st.at_.cell 1).trans rfl
      have hlb := hEr.lb
      have hR := hL.fr.at HR5.out (fun hx => by omega)
      have q0 : wr.cell? ⟨w.heap.size + 1, 0, none⟩ = some (.slice none 0 0) := (hR.cell 0).trans rfl
      have q1 : wr.cell? ⟨w.heap.size + 1, 1, none⟩ = some (.slice none 0 0) := (hR.cell 1).trans rfl
      have f0 := hR.free 0
      have f1 := hR.free 1
      have HL := mkHid hL
      clear hL hEr hR
      go_wp2
      refine bodyPost_ret (v := .agg #[.slice (some ⟨H2, 0, none⟩) i i, .slice va ls.length vc]) (by simp [results, Yba.results14, go_sem, q0, q1]) rfl ⟨H2, .slice va ls.length vc, hs, ls, rfl, ?_, ?_, ?_, HL.out.ls_, ?_, by omega⟩
      · refine (HL.out.st.hold.keep (heap_setCell_other _ _ _ _ ?_)).keep (heap_setCell_other _ _ _ _ ?_) <;> (show H2 ≠ w.heap.size + 1; omega)
      · have h1 : wr.ownsRow w.heap.size 44 1 (.slice va ls.length vc) ls.length (ls.map (nd A)) := by
          refine ⟨HL.out.st.row.1, ?_⟩
          rcases HL.out.st.row.2 with h0 | ⟨g, cap, cur, e, hg, rest⟩
          · exact .inl h0
          · exact .inr ⟨g, cap, cur, e, by omega, rest⟩
        refine own_keep (own_keep h1 (fun g hg => heap_setCell_other _ _ _ _ ?_)) (fun g hg => heap_setCell_other _ _ _ _ ?_) <;> (have := (HL.out.st.rowNe g hg).2.2.1; show g ≠ w.heap.size + 1; omega)
      · intro p hp
        obtain ⟨k, hk, rfl⟩ := hO.surj p hp
        exact HL.out.sd k hk
      · exact ((HBW5.out.trans (HL.out.fr.below (by omega) (fun y hy hx => by omega))).setCell (by simp) _).setCell (by simp) _
end Go.Proofs.Ybulkrsi
