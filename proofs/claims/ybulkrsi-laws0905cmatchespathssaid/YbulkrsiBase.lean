/-
  Seat b0905a. The graph and the sets of nodes in memory; the small functions' contracts.
-/
import Derived.Test.YbulkrsiPure
import Derived.WalkKit
import Derived.WalkLawsBesides
import Derived.Deep.QuietTactic
import Derived.BigQuiet
import Derived.RegionTactic
import Derived.Deep.RegionHeld3
import Derived.Deep.MidRow
import Derived.Deep.AppendLies
import Derived.Laws.AppendOwnNone
namespace Go.Proofs.Ybulkrsi
open Go.RowKit

theorem mkHid {p : Prop} (h : p) : Hid p := h
/-- Block b of w is o. -/
def At (w : World) (b : Nat) (o : Obj) : Prop := w.heap[b]? = some o
section
variable {w w' : World} {b : Nat} {o : Obj}
theorem At.lt (h : At w b o) : b < w.heap.size := lt_of_block h
theorem At.alloc (h : At w b o) (x : Obj) : At (w.alloc x) b o := (Below.heap_alloc _ _ _ h.lt).trans h
theorem At.drewN (h : At w b o) (n : Nat) : At (w.drewN n) b o := h
theorem At.other (h : At w b o) (a : Addr) (v : Value) (hne : b ≠ a.block) : At (w.setCell a v) b o := (heap_setCell_other _ _ _ _ hne).trans h
theorem At.below {B : Nat} (h : At w b o) (hb : Below B w w') (hB : b < B) : At w' b o := (hb.block b hB).trans h
theorem At.new (w : World) (x : Obj) : At (w.alloc x) w.heap.size x := heap_alloc_new w x
theorem At.cell {C : Array Value} {t : TypeId} (h : At w b (.cells C t (0, 0))) (i : Nat) : w.cell? ⟨b, i, none⟩ = C[i]? := cell_of_row _ _ _ _ _ _ h
theorem At.free {C : Array Value} {t : TypeId} (h : At w b (.cells C t (0, 0))) (i : Nat) : w.frozen? ⟨b, i, none⟩ = false := frozen_of_row _ _ _ _ _ h
theorem At.set {C : Array Value} {t : TypeId} (h : At w b (.cells C t (0, 0))) (i : Nat) (v : Value) : At (w.setCell ⟨b, i, none⟩ v) b (.cells (C.setIfInBounds i v) t (0, 0)) := heap_setCell_same _ _ _ _ _ _ h
/-- Two blocks of two element types are two. -/
theorem At.ne {b' : Nat} {C C' : Array Value} {t t' : TypeId} {f f' : Nat × Nat} (h : At w b (.cells C t f)) (h' : At w b' (.cells C' t' f')) (ht : t ≠ t') : b ≠ b' := by
  rintro rfl
  unfold At at h h'
  rw [h] at h'
  simp at h'
  exact ht h'.2.1
end

/-- What turned lies within X. -/
structure Fr (X : Nat → Prop) (w w' : World) : Prop where
  env : Below 0 w w'
  block : ∀ b, b < w.heap.size → ¬ X b → w'.heap[b]? = w.heap[b]?
theorem Fr.refl (X : Nat → Prop) (w : World) : Fr X w w := ⟨Below.refl _ _, fun _ _ _ => rfl⟩
theorem Fr.trans {X : Nat → Prop} {w w' w'' : World} (h : Fr X w w') (k : Fr X w' w'') : Fr X w w'' :=
  ⟨h.env.trans k.env, fun b hb hx => (k.block b (Nat.lt_of_lt_of_le hb h.env.size) hx).trans (h.block b hb hx)⟩
theorem Fr.at {X : Nat → Prop} {w w' : World} (h : Fr X w w') {b : Nat} {o : Obj} (ha : At w b o) (hx : ¬ X b) : At w' b o := (h.block b ha.lt hx).trans ha
theorem Fr.below {X : Nat → Prop} {w w' : World} (h : Fr X w w') {B : Nat} (hB : B ≤ w.heap.size) (hx : ∀ b, b < B → ¬ X b) : Below B w w' :=
  ⟨h.env.os, h.env.tape, h.env.output, h.env.size, fun b hb => h.block b (by omega) (hx b hb)⟩

/-- A row of bools. -/
def Bools (w : World) (b N : Nat) (m : Nat → Bool) : Prop := ∃ C : Array Value, At w b (.cells C 4 (0, 0)) ∧ C.size = N ∧ ∀ x, x < N → C[x]? = some (.bool (m x))
section
variable {w w' : World} {b N : Nat} {m : Nat → Bool}
theorem Bools.cell (h : Bools w b N m) (x : Nat) (hx : x < N) : w.cell? ⟨b, x, none⟩ = some (.bool (m x)) := by
  obtain ⟨C, hA, _, hc⟩ := h
  exact (hA.cell x).trans (hc x hx)
theorem Bools.free (h : Bools w b N m) (x : Nat) : w.frozen? ⟨b, x, none⟩ = false := by
  obtain ⟨C, hA, _, _⟩ := h
  exact hA.free x
theorem Bools.lt (h : Bools w b N m) : b < w.heap.size := by obtain ⟨C, hA, _, _⟩ := h; exact hA.lt
theorem Bools.set (h : Bools w b N m) (x : Nat) (v : Bool) : Bools (w.setCell ⟨b, x, none⟩ (.bool v)) b N (upd m x v) := by
  obtain ⟨C, hA, hs, hc⟩ := h
  refine ⟨_, hA.set x _, by simpa using hs, fun y hy => ?_⟩
  unfold upd
  split
  · rename_i e; subst e
    simp [hs, hy]
  · rename_i e
    rw [Array.getElem?_setIfInBounds_ne (by omega)]
    exact hc y hy
theorem Bools.keep (h : Bools w b N m) (hb : w'.heap[b]? = w.heap[b]?) : Bools w' b N m := by
  obtain ⟨C, hA, hs, hc⟩ := h
  exact ⟨C, hb.trans hA, hs, hc⟩
theorem Bools.below {B : Nat} (h : Bools w b N m) (hb : Below B w w') (hB : b < B) : Bools w' b N m := h.keep (hb.block b hB)
theorem Bools.congr {m' : Nat → Bool} (h : Bools w b N m) (he : ∀ x, x < N → m x = m' x) : Bools w b N m' := by
  obtain ⟨C, hA, hs, hc⟩ := h
  exact ⟨C, hA, hs, fun x hx => by rw [hc x hx, he x hx]⟩
end

/-- What 'make([]bool, n)' makes. -/
def madeB (n : Nat) : Array Value := madeCells #[.bool false] (n * 1)
theorem Yba.info4 : (Yba.prog.info? 4).map (fun i => (i.zero, i.size, i.bytes)) = some (some (.bool false), 1, 1) := by kernel_rfl
theorem run_madeB (n : Nat) (hn : n ≤ 70000) (w : World) : (Instr.makeSlice 41 (.int .i64 (n : Int)) (.int .i64 (n : Int))).run Yba.prog w = .ok (.slice (some ⟨w.heap.size, 0, none⟩) n n) (w.alloc (.cells (madeB n) 4)) := by
  obtain ⟨i, hi, hz, hs, hb⟩ := info_parts Yba.info4
  have hr := run_make (P := Yba.prog) w 41 4 i _ Yba.underlying41 hi hz .i64 .i64 n n (by omega) (Int.le_refl _) (by rw [hb]; omega) (by omega)
  rw [hs] at hr
  simpa [madeB, Value.cells] using hr
theorem bools_new (n : Nat) (w : World) : Bools (w.alloc (.cells (madeB n) 4)) w.heap.size n (fun _ => false) := by
  refine ⟨madeB n, At.new _ _, by unfold madeB; rw [size_madeCells]; omega, fun x hx => ?_⟩
  simp [madeB, madeCells, hx, Nat.mod_one]

/-- A pointer to node p of the block A. -/
def nd (A p : Nat) : Value := .pointer (some ⟨A, p * 4, none⟩)

/-- Where the law puts the node of abstract number i. -/
def pos (n : Nat) (flip : Bool) (i : Nat) : Nat := if flip then n - 1 - i else i
theorem pos_lt {n : Nat} {flip : Bool} {i : Nat} (h : i < n) : pos n flip i < n := by unfold pos; split <;> omega
theorem pos_pos {n : Nat} {flip : Bool} {i : Nat} (h : i < n) : pos n flip (pos n flip i) = i := by unfold pos; split <;> omega
theorem pos_inj {n : Nat} {flip : Bool} {i j : Nat} (hi : i < n) (hj : j < n) (h : pos n flip i = pos n flip j) : i = j := by rw [← pos_pos (flip := flip) hi, h, pos_pos hj]

theorem pos_any (n i : Nat) (flip : Bool) (hn : n ≤ 255) (hi : i < n) (w : World) : Calls Yba.prog 11 #[.int .i64 i, .int .i64 n, .bool flip] w fun e w' => e = .returned (.int .i64 (pos n flip i : Nat)) ∧ w' = w := by
  cases flip
  · go_enter Yba.func11, Yba.ntmps11
    go_wp2
    go_ret
    exact ⟨rfl, rfl⟩
  · go_enter Yba.func11, Yba.ntmps11
    go_wp2
    go_ret
    refine ⟨?_, rfl⟩
    simp [pos]
    omega

set_option maxRecDepth 100000 in
theorem newSet_any (G A n : Nat) (hn : n ≤ 255) (w : World) (hc : w.cell? ⟨G, 0, none⟩ = some (.slice (some ⟨A, 0, none⟩) n n)) :
    Calls Yba.prog 12 #[.pointer (some ⟨G, 0, none⟩)] w fun e w' => ∃ H, e = .returned (.agg #[.slice (some ⟨H, 0, none⟩) n n, .slice none 0 0]) ∧ w.heap.size ≤ H ∧ Bools w' H n (fun _ => false) ∧ Below w.heap.size w w' := by
  have hlt := block_lt_of_cell hc
  have hm := run_madeB n (by omega)
  go_enter Yba.func12, Yba.ntmps12
  go_wp2
  refine bodyPost_ret (v := .agg #[.slice (some ⟨w.heap.size + 1, 0, none⟩) n n, .slice none 0 0]) (by simp [results, Yba.results12, go_sem]) rfl ⟨w.heap.size + 1, rfl, by omega, ?_, ?_⟩
  · have := bools_new n (w.alloc (.cells #[.slice (some ⟨w.heap.size + 1, 0, none⟩) n n, .slice none 0 0] 46))
    rwa [World.size_alloc] at this
  · exact ((Below.refl _ _).alloc (Nat.le_refl _) _).alloc (by simp) _

/-- The set at N: its row of bools at H, its list v. -/
structure SetAt (w : World) (B N H A n : Nat) (v : Value) (h : Nat → Bool) (l : List Nat) : Prop where
  hN : B ≤ N
  hH : B ≤ H
  at_ : At w N (.cells #[.slice (some ⟨H, 0, none⟩) n n, v] 46 (0, 0))
  hold : Bools w H n h
  row : w.ownsRow B 44 1 v l.length (l.map (nd A))
section
variable {w w' : World} {B N H A n : Nat} {v : Value} {h : Nat → Bool} {l : List Nat}
theorem SetAt.ne (s : SetAt w B N H A n v h l) : N ≠ H := by
  obtain ⟨C, hA, _, _⟩ := s.hold
  exact At.ne s.at_ hA (by decide)
theorem SetAt.rowNe (s : SetAt w B N H A n v h l) : ∀ g, v.ownBlock = some g → g ≠ N ∧ g ≠ H ∧ B ≤ g ∧ g < w.heap.size := by
  intro g hg
  obtain ⟨C, hA, _, _⟩ := s.hold
  rcases s.row.2 with ⟨rfl, _⟩ | ⟨g', cap, cur, rfl, hb, hgg, _⟩
  · simp [Value.ownBlock] at hg
  · simp [Value.ownBlock] at hg
    subst hg
    exact ⟨At.ne hgg s.at_ (by decide), At.ne hgg hA (by decide), hb, lt_of_block hgg⟩
theorem SetAt.keep (s : SetAt w B N H A n v h l) (hb : ∀ b, b = N ∨ b = H ∨ v.ownBlock = some b → w'.heap[b]? = w.heap[b]?) : SetAt w' B N H A n v h l := by
  refine ⟨s.hN, s.hH, (hb N (.inl rfl)).trans s.at_, s.hold.keep (hb H (.inr (.inl rfl))), s.row.1, ?_⟩
  rcases s.row.2 with h0 | ⟨g, cap, cur, rfl, hg, hgg, rest⟩
  · exact .inl h0
  · exact .inr ⟨g, cap, cur, rfl, hg, (hb g (.inr (.inr rfl))).trans hgg, rest⟩
end

/-- 'has': does the set hold node p? -/
theorem has_any (N H A n p : Nat) (h : Nat → Bool) (w : World) (hp : p < n) (hc0 : w.cell? ⟨N, 0, none⟩ = some (.slice (some ⟨H, 0, none⟩) n n)) (hH : Bools w H n h) (hi : w.cell? ⟨A, p * 4 + 1, none⟩ = some (.int .i64 p)) :
    Calls Yba.prog 18 #[.pointer (some ⟨N, 0, none⟩), nd A p] w fun e w' => e = .returned (.bool (h p)) ∧ ∃ k, w' = w.drewN k := by
  have hb := hH.cell p hp
  have hlt : (p : Int) < (n : Int) := by omega
  unfold nd
  go_enter Yba.func18, Yba.ntmps18
  go_wp2
  go_quiet (fail)
  go_wp2
  go_ret
  exact ⟨rfl, _, rfl⟩

theorem gb_trans {a b c : World} {r : Option Nat} (h : a.grownBy b r) (k : b.grownBy c r) : a.grownBy c r :=
  ⟨k.os.trans h.os, k.tape.trans h.tape, k.output.trans h.output, Nat.le_trans h.size k.size, fun i hi hne => (k.block i (Nat.lt_of_lt_of_le hi h.size) hne).trans (h.block i hi hne)⟩

theorem Yba.info44 : (Yba.prog.info? 44).map (fun i => (i.zero, i.size, i.bytes)) = some (some (.pointer none), 1, 8) := by kernel_rfl

/-- 'append(v, x)' on a row of pointers of the call's own: it grows in its place, or lies in a new block. -/
theorem run_app (base : Nat) (ty : TypeId) (v : Value) (n : Nat) (xs : List Value) (w : World) (hown : w.ownsRow base 44 1 v n xs) (ad : Addr) (x : Value) (hx : w.cell? ad = some x) (h1 : x.oneCell' = true) (hn : n ≤ 100000) (hbase : base ≤ w.heap.size) :
    ∃ v' w', (Builtin.append_ #[32, 32] ty #[v, .slice (some ad) 1 1]).run Yba.prog w = .ok v' w' ∧ w'.ownsRow base 44 1 v' (n + 1) (xs ++ [x]) ∧ w.grownBy w' v.ownBlock ∧ (v'.ownBlock = v.ownBlock ∨ ∃ g, v'.ownBlock = some g ∧ w.heap.size ≤ g) := by
  obtain ⟨i, hi, hz0, hz1, hz2⟩ := info_parts Yba.info44
  have hnews : ∀ j u, [x][j]? = some u → w.cell? (ad.add j) = some u := fun j u hj => by
    match j with
    | 0 => simp at hj; subst hj; simpa [Addr.add] using hx
    | j + 1 => simp at hj
  have hl : [x].length = 1 * i.size := by rw [hz1]; rfl
  obtain ⟨v', w', hr, h2, h3, _⟩ := run_append_own (P := Yba.prog) w base 32 ty 44 i _ 1 8 Yba.underlying32 hi hz0 hz1 hz2 rfl (by decide) v n xs hown ad 1 1 [x] rfl hnews (by simpa using h1) (by unfold maxLen; omega) (by omega) hbase
  refine ⟨v', w', hr, h2, h3, ?_⟩
  rcases hown.2 with ⟨rfl, rfl⟩ | ⟨g, cap, cur, rfl, hbg, hg, hnc, hcm, hcs, htake⟩
  · have hr2 := run_append_nil (P := Yba.prog) w 32 ty 44 i _ Yba.underlying32 hi hz0 ad 1 1 [x] hl hnews (by omega) (by omega) (by rw [hz2]; omega)
    rw [hr] at hr2
    cases hr2
    exact .inr ⟨_, rfl, Nat.le_refl _⟩
  · by_cases hroom : n + 1 ≤ cap
    · have hr2 := run_append_room (P := Yba.prog) w 32 ty 44 i Yba.underlying32 hi g n cap cur hg ad 1 1 [x] hl hnews (by simpa using h1) hroom (by rw [hz1]; simp; omega)
      rw [hr] at hr2
      cases hr2
      exact .inl rfl
    · have holds : ∀ j u, xs[j]? = some u → w.cell? ((⟨g, 0, none⟩ : Addr).add j) = some u := hown.cells (g := g) rfl
      have hr2 := run_append_grow (P := Yba.prog) w 32 ty 44 i _ Yba.underlying32 hi hz0 ⟨g, 0, none⟩ n cap xs (by rw [hz1]; exact hown.1) holds ad 1 1 [x] hl hnews (by omega) (by omega) (growslice_fits (by omega) (by rw [hz2]; omega))
      rw [hr] at hr2
      cases hr2
      exact .inr ⟨_, rfl, Nat.le_refl _⟩

theorem wp_app {w : World} {o : Oper} {a : Act} {K : Act → World → Prop} {Q : Exit → Act → World → Prop} (s x : Operand)
    (ho : o.op = .call { callee := .builtin .append, args := #[s, x], argTypes := #[32, 32] }) (base : Nat) (v : Value) (n : Nat) (xs : List Value) (hs : a.eval s = v) (hown : w.ownsRow base 44 1 v n xs)
    (ad : Addr) (u : Value) (hx : a.eval x = .slice (some ad) 1 1) (hu : w.cell? ad = some u) (h1 : u.oneCell' = true) (hn : n ≤ 100000) (hbase : base ≤ w.heap.size)
    (h : ∀ v' w', w'.ownsRow base 44 1 v' (n + 1) (xs ++ [u]) → w.grownBy w' v.ownBlock → (v'.ownBlock = v.ownBlock ∨ ∃ g, v'.ownBlock = some g ∧ w.heap.size ≤ g) → K (a.put o.dst v') w') : o.wp Yba.prog a w K Q := by
  obtain ⟨v', w', hr, h2, h3, h4⟩ := run_app base o.type v n xs w hown ad u hu h1 hn hbase
  unfold Oper.wp execOp
  simp only [ho, resolve, invoke, builtin, Sem.run_bind, Sem.run_pure, Result.andThen_ok, List.map_toArray, List.map_cons, List.map_nil, hs, hx, hr]
  exact h v' w' h2 h3 h4

theorem wpList_app {ops : Array Oper} {rest : List Oper} {o : Oper} {a : Act} {Q : Exit → Act → World → Prop} (hgd : o.guard = none) (s x : Operand)
    (ho : o.op = .call { callee := .builtin .append, args := #[s, x], argTypes := #[32, 32] }) (base : Nat) (wr : World) (H : Nat) (hH : wr.heap.size = H) (v : Value) (n : Nat) (xs : List Value) (u : Value) (hown : wr.ownsRow base 44 1 v n xs) (hs : a.eval s = v)
    (hx : a.eval x = .slice (some ⟨H, 0, none⟩) 1 1) (h1 : u.oneCell' = true) (hn : n ≤ 100000) (hbase : base ≤ wr.heap.size)
    (h : ∀ v' w1, w1.ownsRow base 44 1 v' (n + 1) (xs ++ [u]) → wr.grownBy w1 v.ownBlock → (v'.ownBlock = v.ownBlock ∨ ∃ g, v'.ownBlock = some g ∧ wr.heap.size ≤ g) → wpList Yba.prog ops Q rest (a.put o.dst v') w1) :
    wpList Yba.prog ops Q (o :: rest) a (wr.alloc (.cells #[u] 44 (0, 0))) := by
  subst hH
  refine wpList_plain hgd fun _ hK => wp_app s x ho base v n xs hs (hown.alloc _) ⟨wr.heap.size, 0, none⟩ u hx (by simp [World.cell?_alloc_at]) h1 hn (by simp; omega) fun v' w' h2 h3 h4 => hK _ _ (h v' w' h2 (gb_trans (World.grownBy_alloc _ _ _) h3) ?_)
  rcases h4 with h4 | ⟨g, hg, hge⟩
  · exact .inl h4
  · exact .inr ⟨g, hg, by simp at hge; omega⟩
end Go.Proofs.Ybulkrsi
