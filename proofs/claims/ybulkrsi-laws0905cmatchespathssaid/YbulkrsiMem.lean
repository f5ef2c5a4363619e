/-
  Seat b0905a. The law's memory: nodes, graph; the law at lists that are too long.
-/
import Derived.Test.YbulkrsiSub
import Derived.Test.YbulkrsiZ
import Derived.Deep.DeepCutAuto
namespace Go.Proofs.Ybulkrsi
open Go.RowKit

set_option maxRecDepth 100000 in
theorem law_long (n8 fl : Value) (la ca : Option Addr) (ll lc cl cc : Nat) (w : World) (h : 1024 < ll ∨ 1024 < cl) :
    Calls Yba.prog 5 #[n8, .slice la ll lc, .slice ca cl cc, fl] w fun e w' => e = .returned (.bool true) ∧ Below w.heap.size w w' := by
  by_cases h1 : 1024 < ll
  · have h1' : (1024 : Int) < (ll : Int) := by omega
    go_enter Yba.func5, Yba.ntmps5
    go_wp2
    go_ret
    exact ⟨rfl, Below.refl _ _⟩
  · have h1' : ¬ (1024 : Int) < (ll : Int) := by omega
    have h2' : (1024 : Int) < (cl : Int) := by omega
    go_enter Yba.func5, Yba.ntmps5
    go_wp2
    go_ret
    exact ⟨rfl, Below.refl _ _⟩

/-- What 'make([]node, n)' makes. -/
def madeN (n : Nat) : Array Value := madeCells #[.pointer none, .int .i64 0, .int .i64 0, .slice none 0 0] (n * 4)
theorem Yba.info40 : (Yba.prog.info? 40).map (fun i => (i.zero, i.size, i.bytes)) = some (some (.agg #[.pointer none, .int .i64 0, .int .i64 0, .slice none 0 0]), 4, 48) := by kernel_rfl
theorem Yba.size40 : (Yba.prog.info? 40).map (·.size) = some 4 := by kernel_rfl
theorem run_madeN (n : Nat) (hn : n ≤ 255) (w : World) : (Instr.makeSlice 31 (.int .i64 (n : Int)) (.int .i64 (n : Int))).run Yba.prog w = .ok (.slice (some ⟨w.heap.size, 0, none⟩) n n) (w.alloc (.cells (madeN n) 40)) := by
  obtain ⟨i, hi, hz, hs, hb⟩ := info_parts Yba.info40
  have hr := run_make (P := Yba.prog) w 31 40 i _ Yba.underlying31 hi hz .i64 .i64 n n (by omega) (Int.le_refl _) (by rw [hb]; omega) (by omega)
  rw [hs] at hr
  simpa [madeN, Value.cells] using hr
/-- What 'make([]*node, 0, n)' makes. -/
def madeP (n : Nat) : Array Value := madeCells #[.pointer none] (n * 1)
theorem run_madeP (n : Nat) (hn : n ≤ 255) (w : World) : (Instr.makeSlice 32 (.int .i64 0) (.int .i64 (n : Int))).run Yba.prog w = .ok (.slice (some ⟨w.heap.size, 0, none⟩) 0 n) (w.alloc (.cells (madeP n) 44)) := by
  obtain ⟨i, hi, hz, hs, hb⟩ := info_parts Yba.info44
  have hr := run_make (P := Yba.prog) w 32 44 i _ Yba.underlying32 hi hz .i64 .i64 0 n (by omega) (by omega) (by rw [hb]; omega) (by omega)
  rw [hs] at hr
  simpa [madeP, Value.cells] using hr

/-- The block of nodes: of the first k, the number and the auth slice. -/
def NB (w : World) (A n k : Nat) (av : Nat → Value) : Prop := ∃ C : Array Value, At w A (.cells C 40 (0, 0)) ∧ C.size = n * 4 ∧ ∀ p, p < k → C[p * 4 + 1]? = some (.int .i64 p) ∧ C[p * 4 + 3]? = some (av p)
def nilV : Nat → Value := fun _ => .slice none 0 0
def updV (av : Nat → Value) (x : Nat) (v : Value) : Nat → Value := fun y => if y = x then v else av y
section
variable {w w' : World} {A n k : Nat} {av : Nat → Value}
theorem NB.lt (h : NB w A n k av) : A < w.heap.size := by obtain ⟨C, hA, _⟩ := h; exact hA.lt
theorem NB.keep (h : NB w A n k av) (hb : w'.heap[A]? = w.heap[A]?) : NB w' A n k av := by obtain ⟨C, hA, hr⟩ := h; exact ⟨C, hb.trans hA, hr⟩
theorem NB.c1 (h : NB w A n k av) (p : Nat) (hp : p < k) : w.cell? ⟨A, p * 4 + 1, none⟩ = some (.int .i64 p) := by obtain ⟨C, hA, _, hr⟩ := h; exact (hA.cell _).trans (hr p hp).1
theorem NB.c3 (h : NB w A n k av) (p : Nat) (hp : p < k) : w.cell? ⟨A, p * 4 + 3, none⟩ = some (av p) := by obtain ⟨C, hA, _, hr⟩ := h; exact (hA.cell _).trans (hr p hp).2
theorem NB.free (h : NB w A n k av) (i : Nat) : w.frozen? ⟨A, i, none⟩ = false := by obtain ⟨C, hA, _⟩ := h; exact hA.free i
theorem NB.there (h : NB w A n k av) (p : Nat) (hp : p < n) : w.there A (p * 4) 4 := fun j hj => by
  obtain ⟨C, hA, hs, _⟩ := h
  rw [hA.cell, hA.free]
  have : p * 4 + j < C.size := by omega
  simp [this]
theorem NB.set3 (h : NB w A n n av) (p : Nat) (hp : p < n) (v : Value) : NB (w.setCell ⟨A, p * 4 + 3, none⟩ v) A n n (updV av p v) := by
  obtain ⟨C, hA, hs, hr⟩ := h
  refine ⟨_, hA.set _ v, by simpa using hs, fun q hq => ?_⟩
  rw [Array.getElem?_setIfInBounds_ne (by omega)]
  refine ⟨(hr q hq).1, ?_⟩
  unfold updV
  split
  · rename_i e; subst e
    have : q * 4 + 3 < C.size := by omega
    simp [this]
  · rename_i e
    rw [Array.getElem?_setIfInBounds_ne (by omega)]
    exact (hr q hq).2
theorem NB.lay (h : NB w A n k nilV) (hk : k < n) : NB (w.setCells A (k * 4) [.pointer none, .int .i64 k, .int .i64 (-1), .slice none 0 0]) A n (k + 1) nilV := by
  obtain ⟨C, hA, hs, hr⟩ := h
  refine ⟨_, (((hA.set _ _).set _ _).set _ _).set _ _, by simpa using hs, fun q hq => ?_⟩
  by_cases e : q = k
  · subst e
    have h0 : q * 4 + 3 < C.size := by omega
    have h1 : q * 4 + 1 < C.size := by omega
    constructor
    · rw [Array.getElem?_setIfInBounds_ne (by omega), Array.getElem?_setIfInBounds_ne (by omega)]
      simp [h1]
    · simp [nilV, Nat.add_assoc, h0]
  · have := hr q (by omega)
    rw [Array.getElem?_setIfInBounds_ne (by omega), Array.getElem?_setIfInBounds_ne (by omega), Array.getElem?_setIfInBounds_ne (by omega), Array.getElem?_setIfInBounds_ne (by omega)]
    rw [Array.getElem?_setIfInBounds_ne (by omega), Array.getElem?_setIfInBounds_ne (by omega), Array.getElem?_setIfInBounds_ne (by omega), Array.getElem?_setIfInBounds_ne (by omega)]
    exact this
end
theorem nb_new (n : Nat) (w : World) : NB (w.alloc (.cells (madeN n) 40)) w.heap.size n 0 nilV := ⟨madeN n, At.new _ _, by unfold madeN; rw [size_madeCells], fun p hp => by omega⟩

set_option maxRecDepth 100000 in
theorem run_index31 (A n cap k : Nat) (hk : k < n) (w : World) : (Instr.indexAt 31 (.slice (some ⟨A, 0, none⟩) n cap) (.int .i64 (k : Int))).run Yba.prog w = .ok (.pointer (some ⟨A, k * 4, none⟩)) w := by
  have hs : (sizeOf (Yba.prog.elem 31)).run Yba.prog w = .ok 4 w := by kernel_rfl
  rw [run_indexAt_slice w 31 _ _ _ _ _ Yba.underlying31, if_pos (by omega), hs]
  simp [Addr.add_lit]

theorem size_setCells (b : Nat) : ∀ (vs : List Value) (o : Nat) (w : World), (w.setCells b o vs).heap.size = w.heap.size
  | [], _, _ => rfl
  | v :: r, o, w => by rw [World.setCells, size_setCells b r (o + 1)]; simp [World.setCell]
theorem below_setCells {B : Nat} {a : World} (b : Nat) (hb : B ≤ b) : ∀ (vs : List Value) (o : Nat) (w : World), Below B a w → Below B a (w.setCells b o vs)
  | [], _, _, h => h
  | v :: r, o, w, h => by rw [World.setCells]; exact below_setCells b hb r (o + 1) _ (h.setCell hb v)
theorem at_setCells {c : Nat} {o' : Obj} (b : Nat) (hb : c ≠ b) : ∀ (vs : List Value) (o : Nat) (w : World), At w c o' → At (w.setCells b o vs) c o'
  | [], _, _, h => h
  | v :: r, o, w, h => by rw [World.setCells]; exact at_setCells b hb r (o + 1) _ (At.other h ⟨b, o, none⟩ v hb)

/-- The graph behind 'make': order empty. -/
structure S1 (w : World) (n A O k : Nat) (wx : World) : Prop where
  gat : At wx (w.heap.size + 2) (.cells #[.slice (some ⟨A, 0, none⟩) n n, .map none, .slice (some ⟨O, 0, none⟩) 0 n, .slice none 0 0, .map none] 37 (0, 0))
  a1 : w.heap.size ≤ A
  a2 : A < w.heap.size + 2
  o2 : O < w.heap.size + 2
  nb : NB wx A n k nilV
  orow : wx.ownsRow w.heap.size 44 1 (.slice (some ⟨O, 0, none⟩) 0 n) 0 []
  bel : Below w.heap.size w wx
  sz : wx.heap.size = w.heap.size + 3
theorem S1.ao {w wx : World} {n A O k : Nat} (h : S1 w n A O k wx) : O ≠ A := by
  obtain ⟨C, hC, _⟩ := h.nb
  obtain ⟨cur, hcur⟩ := own_at h.orow (g := O) rfl
  exact At.ne hcur hC (by decide)
theorem S1.drew {w wx : World} {n A O k : Nat} (h : S1 w n A O k wx) : S1 w n A O k wx.drew := ⟨h.gat, h.a1, h.a2, h.o2, h.nb.keep rfl, own_keep h.orow (fun _ _ => rfl), h.bel.drew, h.sz⟩
theorem S1.lay {w wx : World} {n A O k : Nat} (h : S1 w n A O k wx) (hk : k < n) : S1 w n A O (k + 1) (wx.setCells A (k * 4) [.pointer none, .int .i64 k, .int .i64 (-1), .slice none 0 0]) := by
  have h1 := h.a1
  have h2 := h.a2
  have hao := h.ao
  refine ⟨at_setCells A (by omega) _ _ _ h.gat, h.a1, h.a2, h.o2, h.nb.lay hk, ?_, below_setCells A h.a1 _ _ _ h.bel, by rw [size_setCells]; exact h.sz⟩
  obtain ⟨cur, hcur⟩ := own_at h.orow (g := O) rfl
  have := at_setCells A hao [.pointer none, .int .i64 k, .int .i64 (-1), .slice none 0 0] (k * 4) wx hcur
  exact own_keep h.orow (fun g hg => by simp [Value.ownBlock] at hg; subst hg; exact this.trans hcur.symm)
theorem own_madeP (n : Nat) (w : World) (hn : n ≤ 255) (B : Nat) (hB : B ≤ w.heap.size) : (w.alloc (.cells (madeP n) 44)).ownsRow B 44 1 (.slice (some ⟨w.heap.size, 0, none⟩) 0 n) 0 [] :=
  ⟨rfl, .inr ⟨w.heap.size, n, madeP n, rfl, hB, heap_alloc_new _ _, Nat.zero_le _, by unfold maxLen; omega, by unfold madeP; rw [size_madeCells], rfl⟩⟩
theorem S1.ab (w : World) (n : Nat) (hn : n ≤ 255) : S1 w n w.heap.size (w.heap.size + 1) 0 (((w.alloc (.cells (madeN n) 40)).alloc (.cells (madeP n) 44)).alloc (.cells #[.slice (some ⟨w.heap.size, 0, none⟩) n n, .map none, .slice (some ⟨w.heap.size + 1, 0, none⟩) 0 n, .slice none 0 0, .map none] 37)) := by
  refine ⟨?_, Nat.le_refl _, by omega, by omega, ((nb_new n w).keep (Below.heap_alloc _ _ _ (by simp))).keep (Below.heap_alloc _ _ _ (by simp; omega)), ?_, (((Below.refl _ _).alloc (Nat.le_refl _) _).alloc (by simp) _).alloc (by simp; omega) _, by simp⟩
  · have := At.new ((w.alloc (.cells (madeN n) 40)).alloc (.cells (madeP n) 44)) (.cells #[.slice (some ⟨w.heap.size, 0, none⟩) n n, .map none, .slice (some ⟨w.heap.size + 1, 0, none⟩) 0 n, .slice none 0 0, .map none] 37)
    rwa [World.size_alloc, World.size_alloc] at this
  · have := (own_madeP n (w.alloc (.cells (madeN n) 40)) hn w.heap.size (by simp)).alloc (.cells #[.slice (some ⟨w.heap.size, 0, none⟩) n n, .map none, .slice (some ⟨w.heap.size + 1, 0, none⟩) 0 n, .slice none 0 0, .map none] 37)
    rwa [World.size_alloc] at this
theorem S1.ba (w : World) (n : Nat) (hn : n ≤ 255) : S1 w n (w.heap.size + 1) w.heap.size 0 (((w.alloc (.cells (madeP n) 44)).alloc (.cells (madeN n) 40)).alloc (.cells #[.slice (some ⟨w.heap.size + 1, 0, none⟩) n n, .map none, .slice (some ⟨w.heap.size, 0, none⟩) 0 n, .slice none 0 0, .map none] 37)) := by
  refine ⟨?_, by omega, by omega, by omega, ?_, ((own_madeP n w hn w.heap.size (Nat.le_refl _)).alloc _).alloc _, (((Below.refl _ _).alloc (Nat.le_refl _) _).alloc (by simp) _).alloc (by simp; omega) _, by simp⟩
  · have := At.new ((w.alloc (.cells (madeP n) 44)).alloc (.cells (madeN n) 40)) (.cells #[.slice (some ⟨w.heap.size + 1, 0, none⟩) n n, .map none, .slice (some ⟨w.heap.size, 0, none⟩) 0 n, .slice none 0 0, .map none] 37)
    rwa [World.size_alloc, World.size_alloc] at this
  · have := (nb_new n (w.alloc (.cells (madeP n) 44))).keep (Below.heap_alloc _ (.cells #[.slice (some ⟨w.heap.size + 1, 0, none⟩) n n, .map none, .slice (some ⟨w.heap.size, 0, none⟩) 0 n, .slice none 0 0, .map none] 37) _ (by simp))
    rwa [World.size_alloc] at this

end Go.Proofs.Ybulkrsi
