/-
  Seat b0902aD. inEmergency, stopTsorCM, searchHigherPriority, leave (functions 17, 18, 19, 10), by contracts.
-/
import Derived.Test.YbulkrqsDoorApp
namespace Go.Proofs.YbulkrqsDoor
open Go.RowKit

theorem run_indexS (t : TypeId) (size : Nat) (ht : Ybad.prog.underlying t = some (.slice (Ybad.prog.elem t))) (hs : ∀ w, (sizeOf (Ybad.prog.elem t)).run Ybad.prog w = .ok size w) (a : Option Addr) (g len cap k : Nat) (ha : a = some ⟨g, 0, none⟩) (hk : k < len) (w : World) :
    (Instr.indexAt t (.slice a len cap) (.int .i64 (k : Int))).run Ybad.prog w = .ok (.pointer (some ⟨g, k * size, none⟩)) w := by
  subst ha
  rw [run_indexAt_slice w t _ _ _ _ _ ht, if_pos (by omega), hs]
  simp only [Result.andThen_ok, Int.toNat_natCast]
  rw [Addr.add_mid, Nat.zero_add]

theorem run_index54 (a : Option Addr) (g len cap k : Nat) (ha : a = some ⟨g, 0, none⟩) (hk : k < len) (w : World) :
    (Instr.indexAt 54 (.slice a len cap) (.int .i64 (k : Int))).run Ybad.prog w = .ok (.pointer (some ⟨g, k * 5, none⟩)) w := run_indexS 54 5 (by kernel_rfl) (fun _ => by kernel_rfl) a g len cap k ha hk w
theorem run_index34 (a : Option Addr) (g len cap k : Nat) (ha : a = some ⟨g, 0, none⟩) (hk : k < len) (w : World) :
    (Instr.indexAt 34 (.slice a len cap) (.int .i64 (k : Int))).run Ybad.prog w = .ok (.pointer (some ⟨g, k * 7, none⟩)) w := run_indexS 34 7 (by kernel_rfl) (fun _ => by kernel_rfl) a g len cap k ha hk w

set_option maxHeartbeats 1000000 in
set_option maxRecDepth 100000 in
/-- None of the laws' sessions is an emergency one. -/
theorem inEmergency_any (U : Nat) (s : UEs) (w : World) (hn : s.sn ≤ 1024) (hU : UEAt w U s) (hS : Rws w U s.sa s.sn 5 sessF) : Calls Ybad.prog 17 #[.pointer (some ⟨U, 0, none⟩)] w fun e w' => e = .returned (.bool false) ∧ Below w.heap.size w w' := by
  have h27 := hU.c27
  have hlt := hU.lt
  go_enter Ybad.func17, Ybad.ntmps17
  go_wp2
  go_loopw [10] (fun i wr => ∃ k : Nat, k ≤ s.sn ∧ i = .int .i64 k ∧ Below w.heap.size w wr) (fun i _ => s.sn - (intOf i).toNat)
  case atStart => exact ⟨0, Nat.zero_le _, rfl, Below.refl _ _⟩
  case round =>
    obtain ⟨k, hk, rfl, hbel⟩ := hrel
    by_cases hlt : k < s.sn
    · have hi2 : (k : Int) < (s.sn : Int) := by omega
      obtain ⟨g, ha, hne, hgl, hc⟩ := (hS.kept (gb_below hbel _)) k hlt
      have hx := run_index54 s.sa g s.sn s.sc k ha hlt
      have q0 := hc 0 _ rfl
      have q1 := hc 1 _ rfl
      have q2 := hc 2 _ rfl
      have q3 := hc 3 _ rfl
      have q4 := hc 4 _ rfl
      have HB : Hid (Below w.heap.size w wr) := hbel
      clear ha hc hbel
      simp only [Nat.add_zero] at q0
      go_wp2
      go_roundw
      case rel => exact ⟨k + 1, by omega, by go_num, HB.out.alloc HB.out.size _⟩
      case measure => simp [intOf]; omega
    · go_wp2
      go_ret
      exact ⟨rfl, hbel⟩

theorem Ybad.info71 : (Ybad.prog.info? 71).map (fun i => (i.zero, i.size, i.bytes)) = some (some .nilIface, 1, 16) := by kernel_rfl

def timF (f : Nat → Int) : Nat → List Value := fun k => [.int .u8 (f k), .string ⟨#[]⟩, .bool false, .int .u64 0, .int .i64 0, .pointer none, .int .i64 1]
def stopF (f : Nat → Int) (cl : ByteArray) : Nat → List Value := fun k => [.iface 73 (.agg #[.int .u8 (f k), .string ⟨#[]⟩, .bool false, .string cl])]

set_option maxHeartbeats 1000000 in
set_option maxRecDepth 100000 in
/-- 'stopTsorCM': an action for each timer, in their order; none runs behind it. -/
theorem stop_any (U : Nat) (s : UEs) (cl : ByteArray) (f : Nat → Int) (w : World) (hn : s.tn ≤ 1024) (hU : UEAt w U s) (hT : Rws w U s.ta s.tn 7 (timF f)) :
    Calls Ybad.prog 18 #[.pointer (some ⟨U, 0, none⟩), .string cl] w fun e w' => ∃ v, e = .returned v ∧ w'.ownsRow w.heap.size 71 1 v s.tn (flat (stopF f cl) s.tn) ∧ w.grownBy w' (some U) ∧ UEAt w' U { s with ta := none, tn := 0, tc := 0 } := by
  have h29 := hU.c29
  have hlt := hU.lt
  go_enter Ybad.func18, Ybad.ntmps18
  go_wp2
  go_loopw [5, 13] (fun v i wr => ∃ k : Nat, k ≤ s.tn ∧ i = .int .i64 k ∧ wr.ownsRow w.heap.size 71 1 v k (flat (stopF f cl) k) ∧ Below w.heap.size w wr) (fun _ i _ => s.tn - (intOf i).toNat)
  case atStart => exact ⟨0, Nat.zero_le _, rfl, World.ownsRow_nil _ _ _ _, Below.refl _ _⟩
  case round =>
    obtain ⟨k, hk, rfl, hown, hbel⟩ := hrel
    by_cases hlt2 : k < s.tn
    · have hi2 : (k : Int) < (s.tn : Int) := by omega
      obtain ⟨g, ha, hne, hgl, hc⟩ := (hT.kept (gb_below hbel _)) k hlt2
      have hx := run_index34 s.ta g s.tn s.tc k ha hlt2
      have q0 := hc 0 _ rfl
      have q1 := hc 1 _ rfl
      have q2 := hc 2 _ rfl
      have q3 := hc 3 _ rfl
      have q4 := hc 4 _ rfl
      have q5 := hc 5 _ rfl
      have q6 := hc 6 _ rfl
      simp only [Nat.add_zero] at q0
      clear ha hc
      go_wp2_with (at_builtin; refine wpList_append1 rfl (.tmp 17) (.tmp 23) 64 rfl w.heap.size 71 _ 1 16 Ybad.underlying64 Ybad.info71 rfl (by decide) (by decide) (wr.alloc _) (wr.heap.size + 1) (by simp) _ k (flat (stopF f cl) k) [.iface 73 (.agg #[.int .u8 (f k), .string ⟨#[]⟩, .bool false, .string cl])] (hown.alloc _) rfl rfl rfl (by simp [Value.oneCell']) (by omega) ?_ ?_)
      · have := hbel.size; simp; omega
      intro v' w1 hown' hgr
      have hbel' : Below w.heap.size w w1 := (hbel.alloc hbel.size _).grown hgr (by have := hbel.size; simp; omega) (own_ge hown)
      clear hown hbel hgr q0 q1 q2 q3 q4 q5 q6 hx
      go_wp2
      go_roundw
      case rel => exact ⟨k + 1, by omega, by go_num, hown', hbel'⟩
      case measure => simp [intOf]; omega
    · obtain hkn : k = s.tn := by omega
      have HK : Hid (k = s.tn) := hkn
      clear hkn
      have hU2 := hU.below hbel hlt
      have c29 := hU2.c29
      have f29 := hU2.free 29
      have hltr := hU2.lt
      go_wp2
      go_ret
      rw [← HK.out]
      refine ⟨_, rfl, ownsRow_setCell_below hown hlt _, gb_set (gb_below hbel _) _ _, hU2.set29 none 0 0⟩

theorem gb_set' {a b : World} {r : Option Nat} (h : a.grownBy b r) (p : Addr) (v : Value) (hp : a.heap.size ≤ p.block) : a.grownBy (b.setCell p v) r :=
  ⟨h.os, h.tape, h.output, by rw [show (b.setCell p v).heap.size = b.heap.size by simp [World.setCell]]; exact h.size, fun k hk hne => (heap_setCell_other _ _ _ _ (by omega)).trans (h.block k hk hne)⟩

theorem ltUp {U N : Nat} (h : U < N) : U < N + 1 ∧ U < N + 1 + 1 ∧ U < N + 1 + 1 + 1 ∧ U < N + 1 + 1 + 1 + 1 ∧ U < N + 1 + 1 + 1 + 1 + 1 := by omega

def searchV (cl : ByteArray) : Value := .iface 77 (.agg #[.pointer none, .string cl])
def timerV (p : Int) : Value := .iface 80 (.agg #[.int .i64 p])

set_option maxHeartbeats 1000000 in
set_option maxRecDepth 100000 in
/-- 'searchHigherPriority' of a UE that receives no cell: it reports that it found none, and starts timer T where it has a period. -/
theorem search_pos (U : Nat) (s : UEs) (cl : ByteArray) (w : World) (hp : 0 < s.pt) (hU : UEAt w U s) :
    Calls Ybad.prog 19 #[.pointer (some ⟨U, 0, none⟩), .string cl] w fun e w' => ∃ v, e = .returned v ∧
      w'.ownsRow w.heap.size 71 1 v 2 [searchV cl, timerV s.pt] ∧ w.grownBy w' (some U) ∧ UEAt w' U { s with sor := ⟨#[]⟩, rel := false, due := false } := by
  have hU1 := ((hU.set22 ⟨#[]⟩).set23 false).set24 false
  have hg1 : w.grownBy (((w.setCell ⟨U, 22, none⟩ (.string ⟨#[]⟩)).setCell ⟨U, 23, none⟩ (.bool false)).setCell ⟨U, 24, none⟩ (.bool false)) (some U) := gb_set (gb_set (gb_set (gb_refl _ _) _ _) _ _) _ _
  have c22 := hU.c22
  have c23 := hU.c23
  have c24 := hU.c24
  have f22 := hU.free 22
  have f23 := hU.free 23
  have f24 := hU.free 24
  have hlt := hU.lt
  have HU1 : Hid (UEAt (((w.setCell ⟨U, 22, none⟩ (.string ⟨#[]⟩)).setCell ⟨U, 23, none⟩ (.bool false)).setCell ⟨U, 24, none⟩ (.bool false)) U { s with sor := ⟨#[]⟩, rel := false, due := false }) := hU1
  have HG1 : Hid (w.grownBy (((w.setCell ⟨U, 22, none⟩ (.string ⟨#[]⟩)).setCell ⟨U, 23, none⟩ (.bool false)).setCell ⟨U, 24, none⟩ (.bool false)) (some U)) := hg1
  clear hU1 hg1
  go_enter Ybad.func19, Ybad.ntmps19
  go_wp2_with fail
  refine (higher_none U _ _ HU1.out).mono ?_
  rintro e w1 ⟨rfl, hb⟩
  have HU2 : Hid (UEAt w1 U { s with sor := ⟨#[]⟩, rel := false, due := false }) := HU1.out.below hb HU1.out.lt
  have HG2 : Hid (w.grownBy w1 (some U)) := gb_trans HG1.out (gb_below hb _)
  have l1 := HU2.out.lt
  have c21 := HU2.out.c21
  have hsz : w.heap.size ≤ w1.heap.size := HG2.out.size
  clear HU1 HG1 hb c22 c23 c24 f22 f23 f24
  obtain ⟨la, lb, lc, ld, le⟩ := ltUp l1
  obtain ⟨X, hX⟩ : ∃ X, X = (((w1.alloc (.cells #[.int .i64 0, .string ⟨#[]⟩, .int .u8 0] 61)).alloc (.cells #[.int .u8 0, .int .i64 0] 97)).alloc (.cells #[.pointer none, .string cl] 77)) := ⟨_, rfl⟩
  have hXs : X.heap.size = w1.heap.size + 1 + 1 + 1 := by rw [hX]; simp
  have hXg : w.grownBy X (some U) := by rw [hX]; exact gb_alloc (gb_alloc (gb_alloc HG2.out _) _) _
  have hXU : UEAt X U { s with sor := ⟨#[]⟩, rel := false, due := false } := by rw [hX]; exact ((At.alloc HU2.out _).alloc _).alloc _
  have hown : (X.alloc (.cells #[searchV cl] 71)).ownsRow w.heap.size 71 1 (.slice (some ⟨w1.heap.size + 1 + 1 + 1, 0, none⟩) 1 1) 1 [searchV cl] := by
    have := World.ownsRow_lit (base := w.heap.size) (e := 71) (size := 1) X #[searchV cl] 1 (by omega) (by unfold maxLen; omega) (by simp)
    rw [hXs] at this
    simpa using this
  have HX : Hid (X = (((w1.alloc (.cells #[.int .i64 0, .string ⟨#[]⟩, .int .u8 0] 61)).alloc (.cells #[.int .u8 0, .int .i64 0] 97)).alloc (.cells #[.pointer none, .string cl] 77))) := hX
  have HXG : Hid (w.grownBy X (some U)) := hXg
  have HXU : Hid (UEAt X U { s with sor := ⟨#[]⟩, rel := false, due := false }) := hXU
  have HO : Hid ((X.alloc (.cells #[searchV cl] 71)).ownsRow w.heap.size 71 1 (.slice (some ⟨w1.heap.size + 1 + 1 + 1, 0, none⟩) 1 1) 1 [searchV cl]) := hown
  have HXS : Hid (X.heap.size = w1.heap.size + 1 + 1 + 1) := hXs
  clear hX hXg hXU hown HU2 HG2 hXs
  go_wp2_with (at_builtin; refine wpList_append1 rfl (.tmp 47) (.tmp 54) 64 rfl w.heap.size 71 _ 1 16 Ybad.underlying64 Ybad.info71 rfl (by decide) (by decide) _ (w1.heap.size + 1 + 1 + 1 + 1) ?_ _ 1 [searchV cl] [timerV s.pt] ?_ rfl rfl rfl ?_ ?_ ?_ ?_)
  · simp
  · rw [← HX.out]; exact HO.out
  · simp [Value.oneCell', timerV]
  · omega
  · simp; omega
  intro v' w2 hown' hgr
  rw [← HX.out] at hgr
  have hg3 : w.grownBy w2 (some U) := gb_own (gb_alloc HXG.out _) hgr (own_ge HO.out)
  have hU3 : UEAt w2 U { s with sor := ⟨#[]⟩, rel := false, due := false } := UEAt.kept (At.alloc HXU.out _) hgr (by simp [Value.ownBlock]; omega)
  have HG3 : Hid (w.grownBy w2 (some U)) := hg3
  have HU3 : Hid (UEAt w2 U { s with sor := ⟨#[]⟩, rel := false, due := false }) := hU3
  have HO3 : Hid (w2.ownsRow w.heap.size 71 1 v' (1 + 1) ([searchV cl] ++ [timerV s.pt])) := hown'
  clear hgr hg3 hU3 hown'
  go_wp2
  go_ret
  exact ⟨_, rfl, HO3.out, HG3.out, HU3.out⟩

set_option maxHeartbeats 1000000 in
set_option maxRecDepth 100000 in
/-- 'searchHigherPriority' of a UE that receives no cell: it reports that it found none, and starts timer T where it has a period. -/
theorem search_non (U : Nat) (s : UEs) (cl : ByteArray) (w : World) (hp : ¬ 0 < s.pt) (hU : UEAt w U s) :
    Calls Ybad.prog 19 #[.pointer (some ⟨U, 0, none⟩), .string cl] w fun e w' => ∃ v, e = .returned v ∧
      w'.ownsRow w.heap.size 71 1 v 1 [searchV cl] ∧ w.grownBy w' (some U) ∧ UEAt w' U { s with sor := ⟨#[]⟩, rel := false, due := false } := by
  have hU1 := ((hU.set22 ⟨#[]⟩).set23 false).set24 false
  have hg1 : w.grownBy (((w.setCell ⟨U, 22, none⟩ (.string ⟨#[]⟩)).setCell ⟨U, 23, none⟩ (.bool false)).setCell ⟨U, 24, none⟩ (.bool false)) (some U) := gb_set (gb_set (gb_set (gb_refl _ _) _ _) _ _) _ _
  have c22 := hU.c22
  have c23 := hU.c23
  have c24 := hU.c24
  have f22 := hU.free 22
  have f23 := hU.free 23
  have f24 := hU.free 24
  have hlt := hU.lt
  have HU1 : Hid (UEAt (((w.setCell ⟨U, 22, none⟩ (.string ⟨#[]⟩)).setCell ⟨U, 23, none⟩ (.bool false)).setCell ⟨U, 24, none⟩ (.bool false)) U { s with sor := ⟨#[]⟩, rel := false, due := false }) := hU1
  have HG1 : Hid (w.grownBy (((w.setCell ⟨U, 22, none⟩ (.string ⟨#[]⟩)).setCell ⟨U, 23, none⟩ (.bool false)).setCell ⟨U, 24, none⟩ (.bool false)) (some U)) := hg1
  clear hU1 hg1
  go_enter Ybad.func19, Ybad.ntmps19
  go_wp2_with fail
  refine (higher_none U _ _ HU1.out).mono ?_
  rintro e w1 ⟨rfl, hb⟩
  have HU2 : Hid (UEAt w1 U { s with sor := ⟨#[]⟩, rel := false, due := false }) := HU1.out.below hb HU1.out.lt
  have HG2 : Hid (w.grownBy w1 (some U)) := gb_trans HG1.out (gb_below hb _)
  have l1 := HU2.out.lt
  have c21 := HU2.out.c21
  have hsz : w.heap.size ≤ w1.heap.size := HG2.out.size
  clear HU1 HG1 hb c22 c23 c24 f22 f23 f24
  obtain ⟨la, lb, lc, ld, le⟩ := ltUp l1
  obtain ⟨X, hX⟩ : ∃ X, X = (((w1.alloc (.cells #[.int .i64 0, .string ⟨#[]⟩, .int .u8 0] 61)).alloc (.cells #[.int .u8 0, .int .i64 0] 97)).alloc (.cells #[.pointer none, .string cl] 77)) := ⟨_, rfl⟩
  have hXs : X.heap.size = w1.heap.size + 1 + 1 + 1 := by rw [hX]; simp
  have hXg : w.grownBy X (some U) := by rw [hX]; exact gb_alloc (gb_alloc (gb_alloc HG2.out _) _) _
  have hXU : UEAt X U { s with sor := ⟨#[]⟩, rel := false, due := false } := by rw [hX]; exact ((At.alloc HU2.out _).alloc _).alloc _
  have hown : (X.alloc (.cells #[searchV cl] 71)).ownsRow w.heap.size 71 1 (.slice (some ⟨w1.heap.size + 1 + 1 + 1, 0, none⟩) 1 1) 1 [searchV cl] := by
    have := World.ownsRow_lit (base := w.heap.size) (e := 71) (size := 1) X #[searchV cl] 1 (by omega) (by unfold maxLen; omega) (by simp)
    rw [hXs] at this
    simpa using this
  have HX : Hid (X = (((w1.alloc (.cells #[.int .i64 0, .string ⟨#[]⟩, .int .u8 0] 61)).alloc (.cells #[.int .u8 0, .int .i64 0] 97)).alloc (.cells #[.pointer none, .string cl] 77))) := hX
  have HXG : Hid (w.grownBy X (some U)) := hXg
  have HXU : Hid (UEAt X U { s with sor := ⟨#[]⟩, rel := false, due := false }) := hXU
  have HO : Hid ((X.alloc (.cells #[searchV cl] 71)).ownsRow w.heap.size 71 1 (.slice (some ⟨w1.heap.size + 1 + 1 + 1, 0, none⟩) 1 1) 1 [searchV cl]) := hown
  have HXS : Hid (X.heap.size = w1.heap.size + 1 + 1 + 1) := hXs
  clear hX hXg hXU hown HU2 HG2 hXs
  go_wp2
  go_ret
  refine ⟨_, rfl, ?_, ?_, ?_⟩
  · have := HO.out; rw [HX.out] at this; exact this
  · have := gb_alloc HXG.out (.cells #[searchV cl] 71); rw [HX.out] at this; exact this
  · have := At.alloc HXU.out (.cells #[searchV cl] 71); rw [HX.out] at this; exact this

/-- What 'searchHigherPriority' hands back. -/
def searchN (p : Int) : Nat := if 0 < p then 2 else 1
def searchL (cl : ByteArray) (p : Int) : List Value := if 0 < p then [searchV cl, timerV p] else [searchV cl]
theorem search_any (U : Nat) (s : UEs) (cl : ByteArray) (w : World) (hU : UEAt w U s) :
    Calls Ybad.prog 19 #[.pointer (some ⟨U, 0, none⟩), .string cl] w fun e w' => ∃ v, e = .returned v ∧
      w'.ownsRow w.heap.size 71 1 v (searchN s.pt) (searchL cl s.pt) ∧ w.grownBy w' (some U) ∧ UEAt w' U { s with sor := ⟨#[]⟩, rel := false, due := false } := by
  by_cases hp : 0 < s.pt
  · simp only [searchN, searchL, if_pos hp]; exact search_pos U s cl w hp hU
  · simp only [searchN, searchL, if_neg hp]; exact search_non U s cl w hp hU
theorem searchN_le (p : Int) : searchN p ≤ 2 := by unfold searchN; split <;> omega
theorem searchL_one (cl : ByteArray) (p : Int) : ∀ u ∈ searchL cl p, u.oneCell' = true := by
  unfold searchL; split <;> simp [searchV, timerV, Value.oneCell']

/-- 'append(x, y...)', both of the call's own. -/
theorem wpList_appendS {P : Program} {w : World} {ops : Array Oper} {rest : List Oper} {o : Oper} {a : Act} {Q : Exit → Act → World → Prop} (hgd : o.guard = none) (s x : Operand) (t : TypeId)
    (ho : o.op = .call { callee := .builtin .append, args := #[s, x], argTypes := #[t, t] }) (B B2 e : Nat) (z : Value) (size bytes : Nat) (ht : P.underlying t = some (.slice e))
    (hinfo : (P.info? e).map (fun i => (i.zero, i.size, i.bytes)) = some (some z, size, bytes)) (hzs : z.cells.size = size) (hsz : 0 < size) (hby : 0 < bytes)
    (v y : Value) (n m : Nat) (xs ys : List Value) (hs : a.eval s = v) (hx : a.eval x = y) (hown : w.ownsRow B e size v n xs) (hsrc : w.ownsRow B2 e size y m ys)
    (h1 : ∀ u ∈ ys, u.oneCell' = true) (hb : (n + m) * bytes ≤ 140737488355328) (hB : B ≤ w.heap.size)
    (h : ∀ v' w1, w1.ownsRow B e size v' (n + m) (xs ++ ys) → w.grownBy w1 v.ownBlock → wpList P ops Q rest (a.put o.dst v') w1) :
    wpList P ops Q (o :: rest) a w := by
  obtain ⟨i, hi, hz0, hz1, hz2⟩ := info_parts hinfo
  have hn : n + m ≤ (n + m) * bytes := Nat.le_mul_of_pos_right _ hby
  have hlen := hsrc.1
  have hcells := fun g (hg : y.ownBlock = some g) => hsrc.cells hg
  rcases hsrc.2 with ⟨rfl, rfl⟩ | ⟨g, cap, cur, rfl, _, hg, _⟩
  · have hy : ys = [] := List.eq_nil_of_length_eq_zero (by simpa using hlen)
    subst hy
    refine wpList_append_own_none hgd s x t ho B e i size ht hi v n xs hs hown hx ?_
    refine h v w ?_ (gb_refl _ _)
    simpa using hown
  · exact wpList_append_own _ hgd s x t ho B e i z size bytes ht hi hz0 hz1 hz2 hzs hsz v n xs hs hown ⟨g, 0, none⟩ m cap ys hx hlen (hcells g rfl) h1 (by unfold maxLen; omega) hb hB (fun v' w1 h2 h3 _ => h v' w1 h2 h3)

theorem stop_one (f : Nat → Int) (cl : ByteArray) : ∀ n, ∀ u ∈ flat (stopF f cl) n, u.oneCell' = true
  | 0, u, hu => by simp [flat] at hu
  | k + 1, u, hu => by
    rw [flat, List.mem_append] at hu
    rcases hu with hu | hu
    · exact stop_one f cl k u hu
    · simp [stopF] at hu; subst hu; rfl

def relV (cl : ByteArray) : Value := .iface 68 (.agg #[.string ⟨#[117, 101]⟩, .string cl])
def cmciB : ByteArray := ⟨#[84, 83, 32, 50, 51, 46, 49, 50, 50, 32, 67, 46, 52, 46, 50]⟩

set_option maxHeartbeats 2000000 in
set_option maxRecDepth 100000 in
/-- 'leave' of a UE without an emergency session. -/
theorem leave_any (U : Nat) (s : UEs) (cl : ByteArray) (f : Nat → Int) (w : World) (hn : s.sn ≤ 1024) (hm : s.tn ≤ 1024) (hU : UEAt w U s) (hS : Rws w U s.sa s.sn 5 sessF) (hT : Rws w U s.ta s.tn 7 (timF f)) :
    Calls Ybad.prog 10 #[.pointer (some ⟨U, 0, none⟩), .string cl] w fun e w' => ∃ v, e = .returned v ∧
      w'.ownsRow w.heap.size 71 1 v (1 + s.tn + searchN s.pt) ([relV cl] ++ flat (stopF f cmciB) s.tn ++ searchL cl s.pt) ∧ w.grownBy w' (some U) ∧ UEAt w' U { s with st := 5, ta := none, tn := 0, tc := 0, sor := ⟨#[]⟩, rel := false, due := false } := by
  have hlt := hU.lt
  go_enter Ybad.func10, Ybad.ntmps10
  go_wp2_with fail
  refine (inEmergency_any U s _ hn hU hS).mono ?_
  rintro e w1 ⟨rfl, hb⟩
  have hg1 : w.grownBy w1 (some U) := gb_below hb _
  have HG1 : Hid (w.grownBy w1 (some U)) := hg1
  have HU1 : Hid (UEAt w1 U s) := hU.below hb hlt
  have HT1 : Hid (Rws w1 U s.ta s.tn 7 (timF f)) := hT.kept hg1
  have c15 := HU1.out.c15
  have f15 := HU1.out.free 15
  have l1 := HU1.out.lt
  have hsz := hg1.size
  clear hb hg1
  go_wp2_with fail
  obtain ⟨X, hX⟩ : ∃ X, X = ((w1.setCell ⟨U, 15, none⟩ (.int .u8 5)).alloc (.cells #[.iface 68 (.agg #[.string ⟨#[117, 101]⟩, .string cl])] 71)) := ⟨_, rfl⟩
  rw [← hX]
  have hXg : w.grownBy X (some U) := by rw [hX]; exact gb_alloc (gb_set HG1.out _ _) _
  have hXU : UEAt X U { s with st := 5 } := by rw [hX]; exact At.alloc (HU1.out.set15 5) _
  have hXT : Rws X U s.ta s.tn 7 (timF f) := by rw [hX]; exact HT1.out.kept (gb_alloc (gb_set (gb_refl _ _) _ _) _)
  have hXo : X.ownsRow w.heap.size 71 1 (.slice (some ⟨w1.heap.size, 0, none⟩) 1 1) 1 [relV cl] := by
    have := World.ownsRow_lit (base := w.heap.size) (e := 71) (size := 1) (w1.setCell ⟨U, 15, none⟩ (.int .u8 5)) #[relV cl] 1 (by simp [World.setCell]; exact hsz) (by unfold maxLen; omega) (by simp)
    rw [show (w1.setCell ⟨U, 15, none⟩ (.int .u8 5)).heap.size = w1.heap.size by simp [World.setCell]] at this
    rw [hX]
    exact this
  have hXs : w1.heap.size < X.heap.size := by rw [hX]; simp [World.setCell]
  clear hX HG1 HU1 HT1 c15 f15
  refine (stop_any U { s with st := 5 } _ f X hm hXU hXT).mono ?_
  rintro e w2 ⟨v2, rfl, ho2, hg2, hU2⟩
  have hoX : w2.ownsRow w.heap.size 71 1 (.slice (some ⟨w1.heap.size, 0, none⟩) 1 1) 1 [relV cl] := hXo.kept hg2 (.inr (by simp [Value.ownBlock]; omega))
  have hgw : w.grownBy w2 (some U) := gb_trans hXg hg2
  have HG2 : Hid (w.grownBy w2 (some U)) := hgw
  have HU2 : Hid (UEAt w2 U { s with st := 5, ta := none, tn := 0, tc := 0 }) := hU2
  have HO2 : Hid (w2.ownsRow X.heap.size 71 1 v2 s.tn (flat (stopF f cmciB) s.tn)) := ho2
  have HOX : Hid (w2.ownsRow w.heap.size 71 1 (.slice (some ⟨w1.heap.size, 0, none⟩) 1 1) 1 [relV cl]) := hoX
  have hs2 := hgw.size
  clear hXo hXg hXU hXT ho2 hg2 hU2 hoX hgw
  go_wp2_with (at_builtin; refine wpList_appendS rfl (.tmp 27) (.tmp 29) 64 rfl w.heap.size X.heap.size 71 _ 1 16 Ybad.underlying64 Ybad.info71 rfl (by decide) (by decide) _ v2 1 s.tn [relV cl] (flat (stopF f cmciB) s.tn) rfl rfl HOX.out HO2.out (stop_one _ _ _) (by omega) hs2 ?_)
  intro v3 w3 ho3 hg3
  have hg3' : w.grownBy w3 (some U) := gb_own HG2.out hg3 (own_ge HOX.out)
  have HG3 : Hid (w.grownBy w3 (some U)) := hg3'
  have HU3 : Hid (UEAt w3 U { s with st := 5, ta := none, tn := 0, tc := 0 }) := HU2.out.kept hg3 (by simp [Value.ownBlock]; omega)
  have HO3 : Hid (w3.ownsRow w.heap.size 71 1 v3 (1 + s.tn) ([relV cl] ++ flat (stopF f cmciB) s.tn)) := ho3
  clear hg3 hg3' ho3 HG2 HU2 HO2 HOX
  go_wp2_with fail
  refine (search_any U _ _ _ HU3.out).mono ?_
  rintro e w4 ⟨v4, rfl, ho4, hg4, hU4⟩
  have hge := own_ge HO3.out
  have ho34 : w4.ownsRow w.heap.size 71 1 v3 (1 + s.tn) ([relV cl] ++ flat (stopF f cmciB) s.tn) := HO3.out.kept hg4 (.inr (fun e => by have := hge U e; omega))
  have HO34 : Hid (w4.ownsRow w.heap.size 71 1 v3 (1 + s.tn) ([relV cl] ++ flat (stopF f cmciB) s.tn)) := ho34
  have HO4 : Hid (w4.ownsRow w3.heap.size 71 1 v4 (searchN s.pt) (searchL cl s.pt)) := ho4
  have HG4 : Hid (w.grownBy w4 (some U)) := gb_trans HG3.out hg4
  have HU4 : Hid (UEAt w4 U { s with st := 5, ta := none, tn := 0, tc := 0, sor := ⟨#[]⟩, rel := false, due := false }) := hU4
  have hs4 := HG4.out.size
  have hle := searchN_le s.pt
  clear ho34 ho4 hg4 hU4 HO3 HG3 HU3 hge
  go_wp2_with (at_builtin; refine wpList_appendS rfl (.tmp 31) (.tmp 34) 64 rfl w.heap.size w3.heap.size 71 _ 1 16 Ybad.underlying64 Ybad.info71 rfl (by decide) (by decide) v3 v4 (1 + s.tn) (searchN s.pt) _ _ rfl rfl HO34.out HO4.out (searchL_one _ _) (by omega) hs4 ?_)
  intro v5 w5 ho5 hg5
  have HG5 : Hid (w.grownBy w5 (some U)) := gb_own HG4.out hg5 (own_ge HO34.out)
  have HU5 : Hid (UEAt w5 U { s with st := 5, ta := none, tn := 0, tc := 0, sor := ⟨#[]⟩, rel := false, due := false }) := HU4.out.kept hg5 (fun e => by have := own_ge HO34.out U e.symm; omega)
  have HO5 : Hid (w5.ownsRow w.heap.size 71 1 v5 (1 + s.tn + searchN s.pt) ([relV cl] ++ flat (stopF f cmciB) s.tn ++ searchL cl s.pt)) := ho5
  clear ho5 hg5 HG4 HU4 HO34 HO4
  go_wp2
  go_ret
  exact ⟨_, rfl, HO5.out, HG5.out, HU5.out⟩
end Go.Proofs.YbulkrqsDoor
