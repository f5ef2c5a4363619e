/-
  Seat b0902aD. 'x = append(x, E{..})' on a slice of the call's own, as one law; the laws' two builders of lists (functions 5 and 6).
-/
import Derived.Test.YbulkrqsDoorHP
import Derived.Deep.AppendLies
import Derived.Laws.AppendOwnNone
namespace Go.Proofs.YbulkrqsDoor
open Go.RowKit

theorem gb_trans {a b c : World} {r : Option Nat} (h : a.grownBy b r) (k : b.grownBy c r) : a.grownBy c r :=
  ⟨k.os.trans h.os, k.tape.trans h.tape, k.output.trans h.output, Nat.le_trans h.size k.size, fun i hi hne => (k.block i (Nat.lt_of_lt_of_le hi h.size) hne).trans (h.block i hi hne)⟩
theorem gb_refl (w : World) (r : Option Nat) : w.grownBy w r := ⟨rfl, rfl, rfl, Nat.le_refl _, fun _ _ _ => rfl⟩
/-- A later step that writes new blocks alone. -/
theorem gb_own {a b c : World} {r row : Option Nat} (h : a.grownBy b r) (k : b.grownBy c row) (hr : ∀ g, row = some g → a.heap.size ≤ g) : a.grownBy c r :=
  ⟨k.os.trans h.os, k.tape.trans h.tape, k.output.trans h.output, Nat.le_trans h.size k.size, fun i hi hne => (k.block i (Nat.lt_of_lt_of_le hi h.size) (fun e => by have := hr i e.symm; omega)).trans (h.block i hi hne)⟩
theorem gb_below {a b : World} (h : Below a.heap.size a b) (r : Option Nat) : a.grownBy b r := ⟨h.os, h.tape, h.output, h.size, fun i hi _ => h.block i hi⟩
theorem below_gb {a b : World} (h : a.grownBy b none) : Below a.heap.size a b := ⟨h.os, h.tape, h.output, h.size, fun i hi => h.block i hi (by simp)⟩
theorem gb_alloc {a b : World} {r : Option Nat} (h : a.grownBy b r) (o : Obj) : a.grownBy (b.alloc o) r := gb_trans h (World.grownBy_alloc _ _ _)
theorem gb_drew {a b : World} {r : Option Nat} (h : a.grownBy b r) : a.grownBy b.drew r := ⟨h.os, h.tape, h.output, h.size, h.block⟩
theorem gb_set {a b : World} {U : Nat} (h : a.grownBy b (some U)) (i : Nat) (v : Value) : a.grownBy (b.setCell ⟨U, i, none⟩ v) (some U) :=
  ⟨h.os, h.tape, h.output, by rw [show (b.setCell ⟨U, i, none⟩ v).heap.size = b.heap.size by simp [World.setCell]]; exact h.size, fun k hk hne => (heap_setCell_other _ _ _ _ (fun e => hne (by rw [e]))).trans (h.block k hk hne)⟩

theorem own_form {w : World} {B : Nat} {e : TypeId} {size : Nat} {v : Value} {n : Nat} {xs : List Value} (h : w.ownsRow B e size v n xs) : ∃ a c, v = .slice a n c ∧ (n = 0 ∨ ∃ g, a = some ⟨g, 0, none⟩ ∧ B ≤ g ∧ g < w.heap.size) := by
  rcases h.2 with ⟨rfl, rfl⟩ | ⟨g, cap, cur, rfl, hb, hg, _⟩
  · exact ⟨none, 0, rfl, .inl rfl⟩
  · exact ⟨_, cap, rfl, .inr ⟨g, rfl, hb, lt_of_block hg⟩⟩
/-- What is owned from B on lies from B on. -/
theorem own_ge {w : World} {B : Nat} {e : TypeId} {size : Nat} {v : Value} {n : Nat} {xs : List Value} (h : w.ownsRow B e size v n xs) : ∀ g, v.ownBlock = some g → B ≤ g := fun g hg => (h.lt g hg).1

theorem wpList_append1 {P : Program} {ops : Array Oper} {rest : List Oper} {o : Oper} {a : Act} {Q : Exit → Act → World → Prop} (hgd : o.guard = none) (s x : Operand) (t : TypeId)
    (ho : o.op = .call { callee := .builtin .append, args := #[s, x], argTypes := #[t, t] }) (B e : Nat) (z : Value) (size bytes : Nat) (ht : P.underlying t = some (.slice e))
    (hinfo : (P.info? e).map (fun i => (i.zero, i.size, i.bytes)) = some (some z, size, bytes)) (hzs : z.cells.size = size) (hsz : 0 < size) (hby : 0 < bytes)
    (wr : World) (H : Nat) (hH : wr.heap.size = H) (v : Value) (n : Nat) (xs news : List Value) (hown : wr.ownsRow B e size v n xs) (hs : a.eval s = v) (hx : a.eval x = .slice (some ⟨H, 0, none⟩) 1 1)
    (hl : news.length = size) (h1 : ∀ u ∈ news, u.oneCell' = true) (hb : (n + 1) * bytes ≤ 140737488355328) (hB : B ≤ wr.heap.size)
    (h : ∀ v' w1, w1.ownsRow B e size v' (n + 1) (xs ++ news) → wr.grownBy w1 v.ownBlock → wpList P ops Q rest (a.put o.dst v') w1) :
    wpList P ops Q (o :: rest) a (wr.alloc (.cells news.toArray e (0, 0))) := by
  subst hH
  obtain ⟨i, hi, hz0, hz1, hz2⟩ := info_parts hinfo
  have hn : n + 1 ≤ (n + 1) * bytes := Nat.le_mul_of_pos_right _ hby
  refine wpList_append_own _ hgd s x t ho B e i z size bytes ht hi hz0 hz1 hz2 hzs hsz v n xs hs (hown.alloc _) ⟨wr.heap.size, 0, none⟩ 1 1 news hx (by rw [hl]; omega)
    (by have := World.news_of_block (heap_alloc_new wr (.cells news.toArray e (0, 0))); simpa using this) h1 (by unfold maxLen; omega) hb (by simp; omega) ?_
  intro v' w1 h2 h3 _
  exact h v' w1 h2 (gb_trans (World.grownBy_alloc _ _ _) h3)

theorem Ybad.info94 : (Ybad.prog.info? 94).map (fun i => (i.zero, i.size, i.bytes)) = some (some (.agg #[.int .u8 0, .string ByteArray.empty, .int .u8 0, .int .u32 0, .bool false]), 5, 40) := by kernel_rfl
theorem Ybad.info31 : (Ybad.prog.info? 31).map (fun i => (i.zero, i.size, i.bytes)) = some (some (.string ByteArray.empty), 1, 16) := by kernel_rfl

/-- The cells of the first k elements. -/
def flat (f : Nat → List Value) : Nat → List Value
  | 0 => []
  | k + 1 => flat f k ++ f k
theorem flat_length {f : Nat → List Value} {size : Nat} (hf : ∀ j, (f j).length = size) : ∀ n, (flat f n).length = n * size
  | 0 => by simp [flat]
  | k + 1 => by rw [flat, List.length_append, flat_length hf k, hf, Nat.succ_mul]
theorem flat_get {f : Nat → List Value} {size : Nat} (hf : ∀ j, (f j).length = size) : ∀ n j i, j < n → i < size → (flat f n)[j * size + i]? = (f j)[i]?
  | 0, j, i, hj, _ => by omega
  | k + 1, j, i, hj, hi => by
    have hlen := flat_length hf k
    by_cases e : j = k
    · subst e
      rw [flat, List.getElem?_append_right (by rw [hlen]; omega), hlen]
      congr 1; omega
    · have h1 : j * size + i < k * size := by
        have : (j + 1) * size ≤ k * size := Nat.mul_le_mul_right _ (by omega)
        rw [Nat.succ_mul] at this; omega
      rw [flat, List.getElem?_append_left (by rw [hlen]; exact h1)]
      exact flat_get hf k j i (by omega) hi

/-- Elements of many cells, in a block that is not the UE's. -/
def Rws (w : World) (U : Nat) (a : Option Addr) (n size : Nat) (f : Nat → List Value) : Prop :=
  ∀ j, j < n → ∃ g, a = some ⟨g, 0, none⟩ ∧ g ≠ U ∧ g < w.heap.size ∧ ∀ i v, (f j)[i]? = some v → w.cell? ⟨g, j * size + i, none⟩ = some v
theorem Rws.kept {w w' : World} {U : Nat} {a : Option Addr} {n size : Nat} {f : Nat → List Value} (h : Rws w U a n size f) (hg : w.grownBy w' (some U)) : Rws w' U a n size f := fun j hj => by
  obtain ⟨g, e, hne, hlt, hc⟩ := h j hj
  exact ⟨g, e, hne, Nat.lt_of_lt_of_le hlt hg.size, fun i v hv => hg.cell (hc i v hv) (fun e => hne (Option.some.inj e))⟩
theorem rws_of_own {w : World} {B e size n U : Nat} {a : Option Addr} {c : Nat} {f : Nat → List Value} (hf : ∀ j, (f j).length = size) (h : w.ownsRow B e size (.slice a n c) n (flat f n)) (hU : U < B) : Rws w U a n size f := fun j hj => by
  rcases h.2 with ⟨hv, h0⟩ | ⟨g, cap, cur, hv, hb, hg, _⟩
  · omega
  · obtain ⟨rfl, _, rfl⟩ : a = some ⟨g, 0, none⟩ ∧ n = n ∧ c = cap := by simpa using hv
    refine ⟨g, rfl, by omega, lt_of_block hg, fun i v hiv => ?_⟩
    have hi : i < size := by have := (List.getElem?_eq_some_iff.1 hiv).1; rw [hf] at this; exact this
    have hlt : j * size + i < n * size := by
      have : (j + 1) * size ≤ n * size := Nat.mul_le_mul_right _ (by omega)
      rw [Nat.succ_mul] at this; omega
    rw [h.cellAt (j * size + i) hlt, flat_get hf n j i hj hi, hiv]

def sessF : Nat → List Value := fun k => [.int .u8 ((k : Int) + 1), .string ⟨#[105, 110, 116, 101, 114, 110, 101, 116]⟩, .int .u8 0, .int .u32 0, .bool false]
theorem wrap8_small (k : Nat) (h : k < 5) : IntKind.u8.wrap ((k : Int) + 1) = (k : Int) + 1 := by rw [IntKind.wrap_u8]; omega

set_option maxHeartbeats 1000000 in
set_option maxRecDepth 100000 in
theorem sessions_any (n : Nat) (hn : n < 5) (w : World) : Calls Ybad.prog 5 #[.int .i64 n] w fun e w' => ∃ v, e = .returned v ∧ w'.ownsRow w.heap.size 94 5 v n (flat sessF n) ∧ Below w.heap.size w w' := by
  go_enter Ybad.func5, Ybad.ntmps5
  go_wp2
  go_loopw [3, 4] (fun v i wr => ∃ k : Nat, k ≤ n ∧ i = .int .i64 k ∧ wr.ownsRow w.heap.size 94 5 v k (flat sessF k) ∧ Below w.heap.size w wr) (fun _ i _ => n - (intOf i).toNat)
  case atStart => exact ⟨0, Nat.zero_le _, rfl, World.ownsRow_nil _ _ _ _, Below.refl _ _⟩
  case round =>
    obtain ⟨k, hk, rfl, hown, hbel⟩ := hrel
    by_cases hlt : k < n
    · have hw := wrap8_small k (by omega)
      have hi2 : (k : Int) < (n : Int) := by omega
      go_wp2_with (at_builtin; refine wpList_append1 rfl (.tmp 10) (.tmp 15) 54 rfl w.heap.size 94 _ 5 40 Ybad.underlying54 Ybad.info94 rfl (by decide) (by decide) wr wr.heap.size rfl _ k (flat sessF k) [.int .u8 ((k : Int) + 1), .string ⟨#[105, 110, 116, 101, 114, 110, 101, 116]⟩, .int .u8 0, .int .u32 0, .bool false] hown rfl rfl rfl (by simp [Value.oneCell']) (by omega) hbel.size ?_)
      intro v' w1 hown' hgr
      have hbel' : Below w.heap.size w w1 := hbel.grown hgr hbel.size (own_ge hown)
      clear hown hbel hgr
      go_wp2
      go_roundw
      case rel => exact ⟨k + 1, by omega, by go_num, hown', hbel'⟩
      case measure => simp [intOf]; omega
    · obtain rfl : k = n := by omega
      go_wp2
      go_ret
      exact ⟨_, rfl, hown, hbel⟩

theorem run_index (t : TypeId) (ht : Ybad.prog.underlying t = some (.slice (Ybad.prog.elem t))) (hs : ∀ w, (sizeOf (Ybad.prog.elem t)).run Ybad.prog w = .ok 1 w) (a : Option Addr) (b off len cap k : Nat) (ha : a = some ⟨b, off, none⟩) (hk : k < len) (w : World) :
    (Instr.indexAt t (.slice a len cap) (.int .i64 (k : Int))).run Ybad.prog w = .ok (.pointer (some ⟨b, off + k, none⟩)) w := by
  subst ha
  rw [run_indexAt_slice w t _ _ _ _ _ ht, if_pos (by omega), hs]
  simp [Addr.add]
theorem run_index22 (a : Option Addr) (b off len cap k : Nat) (ha : a = some ⟨b, off, none⟩) (hk : k < len) (w : World) :
    (Instr.indexAt 22 (.slice a len cap) (.int .i64 (k : Int))).run Ybad.prog w = .ok (.pointer (some ⟨b, off + k, none⟩)) w := run_index 22 (by kernel_rfl) (fun _ => by kernel_rfl) a b off len cap k ha hk w
theorem run_index23 (a : Option Addr) (b off len cap k : Nat) (ha : a = some ⟨b, off, none⟩) (hk : k < len) (w : World) :
    (Instr.indexAt 23 (.slice a len cap) (.int .i64 (k : Int))).run Ybad.prog w = .ok (.pointer (some ⟨b, off + k, none⟩)) w := run_index 23 (by kernel_rfl) (fun _ => by kernel_rfl) a b off len cap k ha hk w
theorem run_index24 (a : Option Addr) (b off len cap k : Nat) (ha : a = some ⟨b, off, none⟩) (hk : k < len) (w : World) :
    (Instr.indexAt 24 (.slice a len cap) (.int .i64 (k : Int))).run Ybad.prog w = .ok (.pointer (some ⟨b, off + k, none⟩)) w := run_index 24 (by kernel_rfl) (fun _ => by kernel_rfl) a b off len cap k ha hk w

/-- A slice of one-celled elements that came in: what its elements hold. -/
def In (w : World) (B : Nat) (a : Option Addr) (len : Nat) (f : Nat → Value) : Prop := ∀ k, k < len → ∃ b off, a = some ⟨b, off, none⟩ ∧ b < B ∧ w.cell? ⟨b, off + k, none⟩ = some (f k)
theorem In.below {w w' : World} {B B' : Nat} {a : Option Addr} {len : Nat} {f : Nat → Value} (h : In w B a len f) (hb : Below B' w w') (hB : B ≤ B') : In w' B a len f := fun k hk => by
  obtain ⟨b, off, e, hlt, hc⟩ := h k hk
  exact ⟨b, off, e, hlt, (hb.cell (by show b < B'; omega)).trans hc⟩

def servF (f : Nat → ByteArray) : Nat → List Value := fun k => [.string (f k)]

set_option maxHeartbeats 1000000 in
set_option maxRecDepth 100000 in
theorem services_any (a : Option Addr) (n c B : Nat) (f : Nat → ByteArray) (hn : n ≤ 1024) (w : World) (hB : B ≤ w.heap.size) (hin : In w B a n (fun k => .string (f k))) :
    Calls Ybad.prog 6 #[.slice a n c] w fun e w' => ∃ v, e = .returned v ∧ w'.ownsRow w.heap.size 31 1 v n (flat (servF f) n) ∧ Below w.heap.size w w' := by
  go_enter Ybad.func6, Ybad.ntmps6
  go_wp2
  go_loopw [3, 8] (fun v i wr => ∃ k : Nat, k ≤ n ∧ i = .int .i64 k ∧ wr.ownsRow w.heap.size 31 1 v k (flat (servF f) k) ∧ Below w.heap.size w wr) (fun _ i _ => n - (intOf i).toNat)
  case atStart => exact ⟨0, Nat.zero_le _, rfl, World.ownsRow_nil _ _ _ _, Below.refl _ _⟩
  case round =>
    obtain ⟨k, hk, rfl, hown, hbel⟩ := hrel
    by_cases hlt : k < n
    · have hi2 : (k : Int) < (n : Int) := by omega
      obtain ⟨b, off, ha, hb, hc⟩ := (hin.below hbel hB) k hlt
      have hx := run_index22 a b off n c k ha hlt
      clear ha
      go_wp2_with (at_builtin; refine wpList_append1 rfl (.tmp 12) (.tmp 14) 56 rfl w.heap.size 31 _ 1 16 Ybad.underlying56 Ybad.info31 rfl (by decide) (by decide) wr wr.heap.size rfl _ k (flat (servF f) k) [.string (f k)] hown rfl rfl rfl (by simp [Value.oneCell']) (by omega) hbel.size ?_)
      intro v' w1 hown' hgr
      have hbel' : Below w.heap.size w w1 := hbel.grown hgr hbel.size (own_ge hown)
      clear hown hbel hgr hc hx
      go_wp2
      go_roundw
      case rel => exact ⟨k + 1, by omega, by go_num, hown', hbel'⟩
      case measure => simp [intOf]; omega
    · obtain rfl : k = n := by omega
      go_wp2
      go_ret
      exact ⟨_, rfl, hown, hbel⟩
end Go.Proofs.YbulkrqsDoor
