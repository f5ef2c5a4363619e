/-
  Seat b0905a. The law's tails: the code behind each part; what each part finds in memory.
-/
import Derived.Test.YbulkrsiMem2
namespace Go.Proofs.Ybulkrsi
open Go.RowKit

/-- The code behind the first k statements. -/
def dropSeq : Nat → Code → Code
  | 0, c => c
  | k + 1, .seq _ b => dropSeq k b
  | _ + 1, c => c
noncomputable def tl (k : Nat) : Code := dropSeq k (Yba.f5.body.getD .skip)
/-- What the law promises. -/
def Fin (w : World) : Ending → World → Prop := fun e w' => e = .returned (.bool true) ∧ Below w.heap.size w w'

/-- The conflicted nodes that came in: bytes. -/
def InB (w : World) (B : Nat) (a : Option Addr) (len : Nat) (f : Nat → Nat) : Prop := ∀ k, k < len → ∃ b off, a = some ⟨b, off, none⟩ ∧ b < B ∧ w.cell? ⟨b, off + k, none⟩ = some (.int .u8 (f k)) ∧ f k < 256
theorem InB.below {w w' : World} {B B' : Nat} {a : Option Addr} {len : Nat} {f : Nat → Nat} (h : InB w B a len f) (hb : Below B' w w') (hB : B ≤ B') : InB w' B a len f := fun k hk => by
  obtain ⟨b, off, e, hlt, h0, h2⟩ := h k hk
  exact ⟨b, off, e, hlt, (hb.cell (p := ⟨b, off + k, none⟩) (by show b < B'; omega)).trans h0, h2⟩
set_option maxRecDepth 100000 in
theorem run_index22 (a : Option Addr) (b off len cap k : Nat) (ha : a = some ⟨b, off, none⟩) (hk : k < len) (w : World) :
    (Instr.indexAt 22 (.slice a len cap) (.int .i64 (k : Int))).run Yba.prog w = .ok (.pointer (some ⟨b, off + k, none⟩)) w := by
  subst ha
  have hs : (sizeOf (Yba.prog.elem 22)).run Yba.prog w = .ok 1 w := by kernel_rfl
  rw [run_indexAt_slice w 22 _ _ _ _ _ Yba.underlying22, if_pos (by omega), hs]
  simp [Addr.add_mid]

/-- The graph stands: nothing below B turns any more. -/
structure S3 (w : World) (B n G A J : Nat) (flip : Bool) (m : Nat → Bool) (au : Nat → List Nat) (wx : World) : Prop where
  gr : Gr wx B G A n au (pos n flip)
  adj : Bools wx J (n * n) m
  hJ : J < B
  hB : B ≤ wx.heap.size
  hw : w.heap.size ≤ B
  bel : Below w.heap.size w wx
  ord : Ord n au (pos n flip)
  rel : ∀ hi lo, hi < n → lo < n → (pos n flip lo ∈ au (pos n flip hi) ↔ m (hi * n + lo) = true)
  low : ∀ hi lo, hi < n → lo < n → m (hi * n + lo) = true → lo < hi
theorem S3.keep {w wx wy : World} {B n G A J : Nat} {flip : Bool} {m : Nat → Bool} {au : Nat → List Nat} (h : S3 w B n G A J flip m au wx) (hb : Below B wx wy) : S3 w B n G A J flip m au wy :=
  ⟨h.gr.below hb, h.adj.below hb h.hJ, h.hJ, by have := hb.size; have := h.hB; omega, h.hw, h.bel.trans (hb.mono h.hw), h.ord, h.rel, h.low⟩

/-- The conflicted set while it is filled: N the set, I the row of bools by abstract number. -/
structure S4 (B n N Hc I A : Nat) (flip : Bool) (v : Value) (hc ic : Nat → Bool) (l : List Nat) (wx : World) : Prop where
  st : SetAt wx B N Hc A n v hc l
  inc : Bools wx I n ic
  hI : B ≤ I
  iH : I ≠ Hc
  ig : ∀ g, v.ownBlock = some g → g ≠ I
  lk : ∀ x, x < n → hc (pos n flip x) = ic x
  mem : ∀ x, x < n → (hc x = true ↔ x ∈ l)
  lt : ∀ x, x ∈ l → x < n
  cnt : cf hc n + l.length = n

/-- All that the checks read; nothing below B turns any more. -/
structure S5 (w : World) (B n G A J N Hc I M H2 : Nat) (flip : Bool) (m hc ic hs : Nat → Bool) (au : Nat → List Nat) (c ls : List Nat) (a2 : Option Addr) (c2 : Nat) (wx : World) : Prop where
  gr : Gr wx B G A n au (pos n flip)
  adj : Bools wx J (n * n) m
  hJ : J < B
  hB : B ≤ wx.heap.size
  hw : w.heap.size ≤ B
  bel : Below w.heap.size w wx
  ord : Ord n au (pos n flip)
  rel : ∀ hi lo, hi < n → lo < n → (pos n flip lo ∈ au (pos n flip hi) ↔ m (hi * n + lo) = true)
  low : ∀ hi lo, hi < n → lo < n → m (hi * n + lo) = true → lo < hi
  n0 : wx.cell? ⟨N, 0, none⟩ = some (.slice (some ⟨Hc, 0, none⟩) n n)
  hN : N < B
  hcb : Bools wx Hc n hc
  hHc : Hc < B
  inc : Bools wx I n ic
  hI : I < B
  m0 : wx.cell? ⟨M, 0, none⟩ = some (.slice (some ⟨H2, 0, none⟩) n n)
  m1 : wx.cell? ⟨M, 1, none⟩ = some (.slice a2 ls.length c2)
  hM : M < B
  hsb : Bools wx H2 n hs
  hH2 : H2 < B
  pt : ∀ j q, ls[j]? = some q → ∃ g, a2 = some ⟨g, 0, none⟩ ∧ g < B ∧ wx.cell? ⟨g, j, none⟩ = some (nd A q)
  lk : ∀ x, x < n → hc (pos n flip x) = ic x
  mem : ∀ x, x < n → (hc x = true ↔ x ∈ c)
  lt : ∀ x, x ∈ c → x < n
  wnt : ∀ p, p < n → hs p = want au c p
  lse : ls = ((List.range n).map (pos n flip)).filter (want au c)
theorem S5.keep {w wx wy : World} {B n G A J N Hc I M H2 : Nat} {flip : Bool} {m hc ic hs : Nat → Bool} {au : Nat → List Nat} {c ls : List Nat} {a2 : Option Addr} {c2 : Nat} (h : S5 w B n G A J N Hc I M H2 flip m hc ic hs au c ls a2 c2 wx) (hb : Below B wx wy) :
    S5 w B n G A J N Hc I M H2 flip m hc ic hs au c ls a2 c2 wy :=
  ⟨h.gr.below hb, h.adj.below hb h.hJ, h.hJ, by have := hb.size; have := h.hB; omega, h.hw, h.bel.trans (hb.mono h.hw), h.ord, h.rel, h.low,
    (hb.cell (p := ⟨N, 0, none⟩) h.hN).trans h.n0, h.hN, h.hcb.below hb h.hHc, h.hHc, h.inc.below hb h.hI, h.hI, (hb.cell (p := ⟨M, 0, none⟩) h.hM).trans h.m0, (hb.cell (p := ⟨M, 1, none⟩) h.hM).trans h.m1, h.hM,
    h.hsb.below hb h.hH2, h.hH2, fun j q hj => by obtain ⟨g, e, hg, hc⟩ := h.pt j q hj; exact ⟨g, e, hg, (hb.cell (p := ⟨g, j, none⟩) hg).trans hc⟩, h.lk, h.mem, h.lt, h.wnt, h.lse⟩
end Go.Proofs.Ybulkrsi
