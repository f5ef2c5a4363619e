/-
  Seat b0905a. The law's memory while the links are laid.
-/
import Derived.Test.YbulkrsiMem
namespace Go.Proofs.Ybulkrsi
open Go.RowKit

theorem gb_drew2 {a b : World} {r : Option Nat} (h : a.grownBy b r) : a.grownBy b.drew r := ⟨h.os, h.tape, h.output, h.size, h.block⟩

/-- The links that came in: pairs of bytes. -/
def InL (w : World) (B : Nat) (a : Option Addr) (len : Nat) (f0 f1 : Nat → Nat) : Prop := ∀ k, k < len → ∃ b off, a = some ⟨b, off, none⟩ ∧ b < B ∧ w.cell? ⟨b, off + k * 2, none⟩ = some (.int .u8 (f0 k)) ∧ w.cell? ⟨b, off + k * 2 + 1, none⟩ = some (.int .u8 (f1 k)) ∧ f0 k < 256 ∧ f1 k < 256
theorem InL.below {w w' : World} {B B' : Nat} {a : Option Addr} {len : Nat} {f0 f1 : Nat → Nat} (h : InL w B a len f0 f1) (hb : Below B' w w') (hB : B ≤ B') : InL w' B a len f0 f1 := fun k hk => by
  obtain ⟨b, off, e, hlt, h0, h1, h2⟩ := h k hk
  exact ⟨b, off, e, hlt, (hb.cell (p := ⟨b, off + k * 2, none⟩) (by show b < B'; omega)).trans h0, (hb.cell (p := ⟨b, off + k * 2 + 1, none⟩) (by show b < B'; omega)).trans h1, h2⟩

set_option maxRecDepth 100000 in
theorem run_index29 (a : Option Addr) (b off len cap k : Nat) (ha : a = some ⟨b, off, none⟩) (hk : k < len) (w : World) :
    (Instr.indexAt 29 (.slice a len cap) (.int .i64 (k : Int))).run Yba.prog w = .ok (.pointer (some ⟨b, off + k * 2, none⟩)) w := by
  subst ha
  have hs : (sizeOf (Yba.prog.elem 29)).run Yba.prog w = .ok 2 w := by kernel_rfl
  rw [run_indexAt_slice w 29 _ _ _ _ _ Yba.underlying29, if_pos (by omega), hs]
  simp [Addr.add_mid]

theorem run_madeB2 (n : Nat) (hn : n ≤ 255) (w : World) : (Instr.makeSlice 41 (.int .i64 ((n : Int) * (n : Int))) (.int .i64 ((n : Int) * (n : Int)))).run Yba.prog w = .ok (.slice (some ⟨w.heap.size, 0, none⟩) (n * n) (n * n)) (w.alloc (.cells (madeB (n * n)) 4)) := by
  have h : n * n ≤ 255 * 255 := Nat.mul_le_mul hn hn
  have := run_madeB (n * n) (by omega) w
  rw [Int.natCast_mul] at this
  exact this

theorem flat_lt {n hi lo : Nat} (hh : hi < n) (hl : lo < n) : hi * n + lo < n * n := by
  have : (hi + 1) * n ≤ n * n := Nat.mul_le_mul_right _ hh
  rw [Nat.succ_mul] at this
  omega
theorem flat_inj {n hi lo hi' lo' : Nat} (hl : lo < n) (hl' : lo' < n) (h : hi * n + lo = hi' * n + lo') : hi = hi' ∧ lo = lo' := by
  have h1 : (hi * n + lo) % n = lo := by rw [Nat.mul_comm, Nat.mul_add_mod]; exact Nat.mod_eq_of_lt hl
  have h2 : (hi' * n + lo') % n = lo' := by rw [Nat.mul_comm, Nat.mul_add_mod]; exact Nat.mod_eq_of_lt hl'
  have h3 : (hi * n + lo) / n = hi := by rw [Nat.mul_comm, Nat.mul_add_div (by omega), Nat.div_eq_of_lt hl]; omega
  have h4 : (hi' * n + lo') / n = hi' := by rw [Nat.mul_comm, Nat.mul_add_div (by omega), Nat.div_eq_of_lt hl']; omega
  rw [h] at h1 h3
  exact ⟨h3.symm.trans h4, h1.symm.trans h2⟩

set_option maxRecDepth 100000 in
theorem run_index41 (b N cap k : Nat) (hk : k < N) (w : World) : (Instr.indexAt 41 (.slice (some ⟨b, 0, none⟩) N cap) (.int .i64 (k : Int))).run Yba.prog w = .ok (.pointer (some ⟨b, k, none⟩)) w := by
  have hs : (sizeOf (Yba.prog.elem 41)).run Yba.prog w = .ok 1 w := by kernel_rfl
  rw [run_indexAt_slice w 41 _ _ _ _ _ Yba.underlying41, if_pos (by omega), hs]
  simp [Addr.add_lit]
/-- The cell of a matrix. -/
theorem run_flat (b n hi lo : Nat) (hh : hi < n) (hl : lo < n) (w : World) : (Instr.indexAt 41 (.slice (some ⟨b, 0, none⟩) (n * n) (n * n)) (.int .i64 ((hi : Int) * (n : Int) + (lo : Int)))).run Yba.prog w = .ok (.pointer (some ⟨b, hi * n + lo, none⟩)) w := by
  have := run_index41 b (n * n) (n * n) (hi * n + lo) (flat_lt hh hl) w
  rw [Int.natCast_add, Int.natCast_mul] at this
  exact this
theorem flat_bound {n hi : Nat} (hn : n ≤ 255) (hh : hi < n) : (0 : Int) ≤ (hi : Int) * (n : Int) ∧ (hi : Int) * (n : Int) ≤ 65025 := by
  have h : hi * n ≤ 255 * 255 := Nat.mul_le_mul (by omega) hn
  rw [← Int.natCast_mul]
  omega

def updL (au : Nat → List Nat) (x y : Nat) : Nat → List Nat := fun p => if p = x then au p ++ [y] else au p

/-- The graph while the links are laid; j links are seen to. -/
structure S2 (w : World) (n A O : Nat) (flip : Bool) (j : Nat) (wx : World) (m : Nat → Bool) (au : Nat → List Nat) (av : Nat → Value) : Prop where
  gat : At wx (w.heap.size + 2) (.cells #[.slice (some ⟨A, 0, none⟩) n n, .map none, .slice (some ⟨O, 0, none⟩) 0 n, .slice none 0 0, .map none] 37 (0, 0))
  a1 : w.heap.size ≤ A
  a2 : A < w.heap.size + 2
  o2 : O < w.heap.size + 2
  nb : NB wx A n n av
  orow : wx.ownsRow w.heap.size 44 1 (.slice (some ⟨O, 0, none⟩) 0 n) 0 []
  adj : Bools wx (w.heap.size + 3) (n * n) m
  bel : Below w.heap.size w wx
  sz : w.heap.size + 4 ≤ wx.heap.size
  rows : ∀ p, p < n → wx.ownsRow (w.heap.size + 4) 44 1 (av p) (au p).length ((au p).map (nd A))
  dis : ∀ p q g, p < n → q < n → p ≠ q → (av p).ownBlock = some g → (av q).ownBlock ≠ some g
  rel : ∀ hi lo, hi < n → lo < n → (pos n flip lo ∈ au (pos n flip hi) ↔ m (hi * n + lo) = true)
  low : ∀ hi lo, hi < n → lo < n → m (hi * n + lo) = true → lo < hi
  lt : ∀ p, p < n → ∀ q, q ∈ au p → q < n
  len : ∀ p, p < n → (au p).length ≤ j

theorem S2.start {w wx : World} {n A O : Nat} {flip : Bool} (h : S1 w n A O n wx) : S2 w n A O flip 0 (wx.alloc (.cells (madeB (n * n)) 4)) (fun _ => false) (fun _ => []) nilV := by
  have hsz := h.sz
  have hb := bools_new (n * n) wx
  rw [hsz] at hb
  exact ⟨h.gat.alloc _, h.a1, h.a2, h.o2, h.nb.keep (Below.heap_alloc _ _ _ h.nb.lt), h.orow.alloc _, hb, h.bel.alloc (by omega) _, by simp; omega, fun p _ => World.ownsRow_nil _ _ _ _, fun p q g _ _ _ hg => by simp [nilV, Value.ownBlock] at hg, fun hi lo _ _ => by simp, fun hi lo _ _ h => by simp at h, fun p _ q hq => by simp at hq, fun p _ => Nat.zero_le _⟩

/-- Blocks beside the law's own turn: the state stands. -/
theorem S2.keep {w wx wy : World} {n A O : Nat} {flip : Bool} {j : Nat} {m : Nat → Bool} {au : Nat → List Nat} {av : Nat → Value} (h : S2 w n A O flip j wx m au av) (hb : Below wx.heap.size wx wy) : S2 w n A O flip j wy m au av := by
  have hsz := h.sz
  refine ⟨h.gat.below hb h.gat.lt, h.a1, h.a2, h.o2, h.nb.keep (hb.block _ h.nb.lt), own_keep h.orow (fun g hg => ?_), h.adj.below hb h.adj.lt, h.bel.trans (hb.mono (by omega)), by have := hb.size; omega, fun p hp => own_keep (h.rows p hp) (fun g hg => ?_), h.dis, h.rel, h.low, h.lt, h.len⟩
  · obtain ⟨cur, hcur⟩ := own_at h.orow hg; exact hb.block g hcur.lt
  · obtain ⟨cur, hcur⟩ := own_at (h.rows p hp) hg; exact hb.block g hcur.lt
theorem S2.more {w wx : World} {n A O : Nat} {flip : Bool} {j : Nat} {m : Nat → Bool} {au : Nat → List Nat} {av : Nat → Value} (h : S2 w n A O flip j wx m au av) : S2 w n A O flip (j + 1) wx m au av :=
  ⟨h.gat, h.a1, h.a2, h.o2, h.nb, h.orow, h.adj, h.bel, h.sz, h.rows, h.dis, h.rel, h.low, h.lt, fun p hp => Nat.le_succ_of_le (h.len p hp)⟩

/-- A new link hi → lo: first the bool, then (wy) the append to the auth row of hi, then the store of its slice. -/
theorem S2.link {w wx wy : World} {n A O : Nat} {flip : Bool} {j : Nat} {m : Nat → Bool} {au : Nat → List Nat} {av : Nat → Value} (h : S2 w n A O flip j wx m au av) (hi lo : Nat) (hh : hi < n) (hlo : lo < hi) (v' : Value)
    (ho : wy.ownsRow (w.heap.size + 4) 44 1 v' ((au (pos n flip hi)).length + 1) ((au (pos n flip hi)).map (nd A) ++ [nd A (pos n flip lo)]))
    (hg : (wx.setCell ⟨w.heap.size + 3, hi * n + lo, none⟩ (.bool true)).grownBy wy (av (pos n flip hi)).ownBlock) (hv : v'.ownBlock = (av (pos n flip hi)).ownBlock ∨ ∃ g, v'.ownBlock = some g ∧ wx.heap.size ≤ g) :
    S2 w n A O flip (j + 1) (wy.setCell ⟨A, pos n flip hi * 4 + 3, none⟩ v') (upd m (hi * n + lo) true) (updL au (pos n flip hi) (pos n flip lo)) (updV av (pos n flip hi) v') := by
  have hsz := h.sz
  have ha1 := h.a1
  have ha2 := h.a2
  have ho2 := h.o2
  have hp := pos_lt (flip := flip) hh
  have hq := pos_lt (flip := flip) (show lo < n by omega)
  obtain ⟨p, hpe⟩ : ∃ p, pos n flip hi = p := ⟨_, rfl⟩
  obtain ⟨q, hqe⟩ : ∃ q, pos n flip lo = q := ⟨_, rfl⟩
  rw [hpe] at ho hg hv hp ⊢
  rw [hqe] at ho hq ⊢
  have hszx : (wx.setCell ⟨w.heap.size + 3, hi * n + lo, none⟩ (.bool true)).heap.size = wx.heap.size := by simp [World.setCell]
  have hrow : ∀ x, x < n → ∀ g, (av x).ownBlock = some g → w.heap.size + 4 ≤ g ∧ g < wx.heap.size := fun x hx g hg => (h.rows x hx).lt g hg
  have hpg : ∀ b, b < w.heap.size + 4 → some b ≠ (av p).ownBlock := fun b hb e => by have := hrow p hp b e.symm; omega
  have blk : ∀ b, b < wx.heap.size → b ≠ w.heap.size + 3 → some b ≠ (av p).ownBlock → b ≠ A → (wy.setCell ⟨A, p * 4 + 3, none⟩ v').heap[b]? = wx.heap[b]? := fun b hb h3 hne hA =>
    (heap_setCell_other _ _ _ _ hA).trans ((hg.block b (by rw [hszx]; exact hb) hne).trans (heap_setCell_other _ _ _ _ h3))
  have hv' : ∀ g, v'.ownBlock = some g → g ≠ A ∧ w.heap.size + 4 ≤ g := fun g hg => ⟨by have := (ho.lt g hg).1; omega, (ho.lt g hg).1⟩
  refine ⟨(blk _ h.gat.lt (by omega) (hpg _ (by omega)) (by omega)).trans h.gat, h.a1, h.a2, h.o2, ?_, ?_, ?_, ?_, ?_, fun x hx => ?_, fun x y g hx hy hne hgx hgy => ?_, fun hi' lo' hh' hl' => ?_, fun hi' lo' hh' hl' hm => ?_, fun x hx y hy => ?_, fun x hx => ?_⟩
  · refine NB.set3 (h.nb.keep ?_) p hp v'
    exact (hg.block A (by rw [hszx]; exact h.nb.lt) (hpg A (by omega))).trans (heap_setCell_other _ _ _ _ (by show A ≠ w.heap.size + 3; omega))
  · refine own_keep h.orow (fun g hg => ?_)
    simp [Value.ownBlock] at hg
    subst hg
    obtain ⟨cur, hcur⟩ := own_at h.orow (g := O) rfl
    obtain ⟨C, hC, _⟩ := h.nb
    exact blk O hcur.lt (by omega) (hpg O (by omega)) (At.ne hcur hC (by decide))
  · refine (Bools.set h.adj (hi * n + lo) true).keep ?_
    exact (heap_setCell_other _ _ _ _ (by show w.heap.size + 3 ≠ A; omega)).trans (hg.block _ (by rw [hszx]; omega) (hpg _ (by omega)))
  · refine ⟨hg.os.trans h.bel.os, hg.tape.trans h.bel.tape, hg.output.trans h.bel.output, ?_, fun b hb => ?_⟩
    · have h1 := hg.size
      have h2 := h.bel.size
      rw [hszx] at h1
      have h3 : (wy.setCell ⟨A, p * 4 + 3, none⟩ v').heap.size = wy.heap.size := by simp [World.setCell]
      omega
    · exact (blk b (by omega) (by omega) (hpg b (by omega)) (by omega)).trans (h.bel.block b hb)
  · have h1 := hg.size
    rw [hszx] at h1
    have h3 : (wy.setCell ⟨A, p * 4 + 3, none⟩ v').heap.size = wy.heap.size := by simp [World.setCell]
    omega
  · unfold updV updL
    by_cases e : x = p
    · subst e
      simp only [if_pos]
      have := own_keep (w' := wy.setCell ⟨A, x * 4 + 3, none⟩ v') ho (fun g hg => heap_setCell_other _ _ _ _ (hv' g hg).1)
      simpa using this
    · simp only [if_neg e]
      refine own_keep (h.rows x hx) (fun g hgx => ?_)
      have := hrow x hx g hgx
      exact blk g this.2 (by omega) (fun e' => h.dis x p g hx hp e hgx e'.symm) (by omega)
  · unfold updV at hgx hgy
    by_cases e : x = p
    · subst e
      rw [if_pos rfl] at hgx
      rw [if_neg (Ne.symm hne)] at hgy
      rcases hv with h0 | ⟨g', h0, hge⟩
      · exact h.dis x y g hx hy hne (h0 ▸ hgx) hgy
      · rw [hgx] at h0
        cases h0
        have := (hrow y hy g hgy).2
        omega
    · rw [if_neg e] at hgx
      by_cases e2 : y = p
      · subst e2
        rw [if_pos rfl] at hgy
        rcases hv with h0 | ⟨g', h0, hge⟩
        · exact h.dis x y g hx hy hne hgx (h0 ▸ hgy)
        · rw [hgy] at h0
          cases h0
          have := (hrow x hx g hgx).2
          omega
      · rw [if_neg e2] at hgy
        exact h.dis x y g hx hy hne hgx hgy
  · unfold updL
    by_cases e : hi' = hi
    · subst e
      rw [if_pos hpe, List.mem_append, h.rel hi' lo' hh' hl']
      by_cases e2 : lo' = lo
      · subst e2
        rw [upd_same]
        simp [hqe]
      · rw [upd_other _ _ (fun e3 => e2 (flat_inj hl' (by omega) e3).2)]
        constructor
        · rintro (h1 | h1)
          · exact h1
          · exact absurd (pos_inj hl' (show lo < n by omega) ((by simpa using h1 : pos n flip lo' = q).trans hqe.symm)) e2
        · exact fun h1 => .inl h1
    · rw [if_neg (fun e3 => e (pos_inj hh' hh (e3.trans hpe.symm))), h.rel hi' lo' hh' hl', upd_other _ _ (fun e3 => e (flat_inj hl' (by omega) e3).1)]
  · by_cases e : hi' * n + lo' = hi * n + lo
    · obtain ⟨rfl, rfl⟩ := flat_inj hl' (show lo < n by omega) e
      exact hlo
    · rw [upd_other _ _ e] at hm
      exact h.low hi' lo' hh' hl' hm
  · unfold updL at hy
    split at hy
    · rcases List.mem_append.1 hy with h1 | h1
      · exact h.lt x hx y h1
      · have : y = q := by simpa using h1
        omega
    · exact h.lt x hx y hy
  · unfold updL
    have := h.len x hx
    split
    · simp; omega
    · omega
end Go.Proofs.Ybulkrsi
