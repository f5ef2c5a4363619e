/-
  Seat b0902aD. waitAfterFailedCheck (function 11), by contracts.
-/
import Derived.Test.YbulkrqsDoorDereg
import Derived.Deep.RegionHeld3
namespace Go.Proofs.YbulkrqsDoor
open Go.RowKit

/-- 'append(x, y...)', both of the call's own, at an operation; at a step of a region that draws its order. -/
theorem wp_appendS {P : Program} {w : World} {o : Oper} {a : Act} {K : Act → World → Prop} {Q : Exit → Act → World → Prop} (s x : Operand) (t : TypeId)
    (ho : o.op = .call { callee := .builtin .append, args := #[s, x], argTypes := #[t, t] }) (B B2 e : Nat) (z : Value) (size bytes : Nat) (ht : P.underlying t = some (.slice e))
    (hinfo : (P.info? e).map (fun i => (i.zero, i.size, i.bytes)) = some (some z, size, bytes)) (hzs : z.cells.size = size) (hsz : 0 < size) (hby : 0 < bytes)
    (v y : Value) (n m : Nat) (xs ys : List Value) (hs : a.eval s = v) (hx : a.eval x = y) (hown : w.ownsRow B e size v n xs) (hsrc : w.ownsRow B2 e size y m ys)
    (h1 : ∀ u ∈ ys, u.oneCell' = true) (hb : (n + m) * bytes ≤ 140737488355328) (hB : B ≤ w.heap.size)
    (h : ∀ v' w1, w1.ownsRow B e size v' (n + m) (xs ++ ys) → w.grownBy w1 v.ownBlock → K (a.put o.dst v') w1) : o.wp P a w K Q := by
  obtain ⟨i, hi, hz0, hz1, hz2⟩ := info_parts hinfo
  have hn : n + m ≤ (n + m) * bytes := Nat.le_mul_of_pos_right _ hby
  have hlen := hsrc.1
  have hcells := fun g (hg : y.ownBlock = some g) => hsrc.cells hg
  rcases hsrc.2 with ⟨rfl, rfl⟩ | ⟨g, cap, cur, rfl, _, hg, _⟩
  · have hy : ys = [] := List.eq_nil_of_length_eq_zero (by simpa using hlen)
    subst hy
    have hrun := run_append_owned_none (P := P) (w := w) B t o.type e i size ht hi v n xs hown
    unfold Oper.wp execOp
    simp only [ho, resolve, invoke, builtin, Sem.run_bind, Sem.run_pure, Result.andThen_ok, List.map_toArray, List.map_cons, List.map_nil, hs, hx, hrun]
    exact h v w (by simpa using hown) (gb_refl _ _)
  · exact wp_append_own _ s x t ho B e i z size bytes ht hi hz0 hz1 hz2 hzs hsz v n xs hs hown ⟨g, 0, none⟩ m cap ys hx hlen (hcells g rfl) h1 (by unfold maxLen; omega) hb hB (fun v' w1 h2 h3 _ => h v' w1 h2 h3)

theorem step_appendS {P : Program} {w : World} {ops : Array Oper} {o : Oper} {a : Act} {K : Act → World → Prop} {Q : Exit → Act → World → Prop} {E : Prop} (hgd : o.guard = none) (s x : Operand) (t : TypeId)
    (ho : o.op = .call { callee := .builtin .append, args := #[s, x], argTypes := #[t, t] }) (B B2 e : Nat) (z : Value) (size bytes : Nat) (ht : P.underlying t = some (.slice e))
    (hinfo : (P.info? e).map (fun i => (i.zero, i.size, i.bytes)) = some (some z, size, bytes)) (hzs : z.cells.size = size) (hsz : 0 < size) (hby : 0 < bytes)
    (v y : Value) (n m : Nat) (xs ys : List Value) (hs : a.eval s = v) (hx : a.eval x = y) (hown : w.ownsRow B e size v n xs) (hsrc : w.ownsRow B2 e size y m ys)
    (h1 : ∀ u ∈ ys, u.oneCell' = true) (hb : (n + m) * bytes ≤ 140737488355328) (hB : B ≤ w.heap.size)
    (h : ∀ v' w1, w1.ownsRow B e size v' (n + m) (xs ++ ys) → w.grownBy w1 v.ownBlock → K (a.put o.dst v') w1) :
    if Region.wanted o (yielded ops a.tmps) = true then Oper.wp P o a w K Q else E := by
  have hw : Region.wanted o (yielded ops a.tmps) = true := by simp [Region.wanted, hgd]
  rw [if_pos hw]
  exact wp_appendS s x t ho B B2 e z size bytes ht hinfo hzs hsz hby v y n m xs ys hs hx hown hsrc h1 hb hB h

/-- The variable 'securityCheckTimer' as the text lays it. -/
def Glob (w : World) : Prop := w.cell? ⟨0, 0, none⟩ = some (.int .u8 0) ∧ w.cell? ⟨0, 1, none⟩ = some (.string ⟨#[]⟩) ∧ w.cell? ⟨0, 2, none⟩ = some (.bool true)
theorem Glob.kept {w w' : World} {U : Nat} (h : Glob w) (hg : w.grownBy w' (some U)) (hU : U ≠ 0) : Glob w' :=
  ⟨hg.cell h.1 (by simp; omega), hg.cell h.2.1 (by simp; omega), hg.cell h.2.2 (by simp; omega)⟩

/-- The world inside 'waitAfterFailedCheck' at the test of 'ok'. -/
structure Wt (w : World) (U : Nat) (s1 : UEs) (m : Nat → Bool) (z : Nat → Int) (wk : World) : Prop where
  ue : UEAt wk U s1
  box : At wk w.heap.size (.cells #[.int .u64 0, .int .i64 0, .pointer none] 40 (0, 0))
  gb : w.grownBy wk (some U)
  gl : Glob wk
  ses : Rws wk U s1.sa s1.sn 5 sessF
theorem Wt.next {w wk wn : World} {U : Nat} {s1 : UEs} {m : Nat → Bool} {z : Nat → Int} (h : Wt w U s1 m z wk) (hb : Below wk.heap.size wk wn) (hU : U ≠ 0) : Wt w U s1 m z wn :=
  ⟨h.ue.below hb h.ue.lt, At.below h.box hb h.box.lt, gb_trans h.gb (gb_below hb _), h.gl.kept (gb_below hb (some U)) hU, h.ses.kept (gb_below hb _)⟩

set_option maxHeartbeats 2000000 in
set_option maxRecDepth 100000 in
theorem wait_none (U : Nat) (s : UEs) (cl : ByteArray) (m : Nat → Bool) (z : Nat → Int) (w : World) (hU0 : U ≠ 0) (hta : s.ta = none ∧ s.tn = 0 ∧ s.tc = 0) (hst : s.st = 4) (hrn : s.rn ≤ 1025) (hsn : s.sn ≤ 1024) (hok : okV m s.rn = false)
    (hU : UEAt w U s) (hR : Rws w U s.ra s.rn 6 (rulF m z)) (hS : Rws w U s.sa s.sn 5 sessF) (hG : Glob w) :
    Calls Ybad.prog 11 #[.pointer (some ⟨U, 0, none⟩), .string cl, .agg #[.int .u64 0, .int .i64 0, .pointer none]] w fun e w' => ∃ v, e = .returned v ∧
      w'.ownsRow w.heap.size 71 1 v 1 [deregV] ∧ w.grownBy w' (some U) ∧ UEAt w' U { s with sor := cl, st := 6, reg := 1, sa := none, sn := 0, sc := 0, va := none, vn := 0, vc := 0 } := by
  have hlt := hU.lt
  have c22 := hU.c22
  have f22 := hU.free 22
  obtain ⟨g0, g1, g2⟩ := hG
  have hb0 : ¬ U = 0 := hU0
  have hb0' : ¬ 0 = U := fun h => hU0 h.symm
  have hl0 : 0 < w.heap.size := by omega
  obtain ⟨s1, hs1⟩ : ∃ s1 : UEs, s1 = { s with sor := cl } := ⟨_, rfl⟩
  have P0 : Hid (Wt w U s1 m z ((w.setCell ⟨U, 22, none⟩ (.string cl)).alloc (.cells #[.int .u64 0, .int .i64 0, .pointer none] 40))) := by
    have gg : w.grownBy ((w.setCell ⟨U, 22, none⟩ (.string cl)).alloc (.cells #[.int .u64 0, .int .i64 0, .pointer none] 40)) (some U) := gb_alloc (gb_set (gb_refl _ _) _ _) _
    refine ⟨?_, ?_, gg, Glob.kept ⟨g0, g1, g2⟩ gg hU0, ?_⟩
    · rw [hs1]; exact At.alloc (hU.set22 cl) _
    · have := At.new (w.setCell ⟨U, 22, none⟩ (.string cl)) (.cells #[.int .u64 0, .int .i64 0, .pointer none] 40)
      rwa [show (w.setCell ⟨U, 22, none⟩ (.string cl)).heap.size = w.heap.size by simp [World.setCell]] at this
    · rw [hs1]; exact hS.kept gg
  have HR : Hid (∀ w', w.grownBy w' (some U) → Rws w' U s1.ra s1.rn 6 (rulF m z)) := fun w' hg => by rw [hs1]; exact hR.kept hg
  have HT1 : Hid (s1.ta = none ∧ s1.tn = 0 ∧ s1.tc = 0) := by rw [hs1]; exact hta
  have HST : Hid (s1.st = 4) := by rw [hs1]; exact hst
  have hrn1 : s1.rn ≤ 1025 := by rw [hs1]; exact hrn
  have hsn1 : s1.sn ≤ 1024 := by rw [hs1]; exact hsn
  have HOK : Hid (okV m s1.rn = false) := by rw [hs1]; exact hok
  have HS1 : Hid (s1 = { s with sor := cl }) := hs1
  clear hs1 hta hst hok hrn hsn hR hS hU
  go_enter Ybad.func11, Ybad.ntmps11
  go_wp2_with fail
  refine (runs_none U s1 _ _ _ _ HT1.out.2.1 ?_).mono ?_
  · exact P0.out.ue
  rintro e w1 ⟨rfl, hb⟩
  have P1 : Hid (Wt w U s1 m z w1) := P0.out.next hb hU0
  clear hb P0 c22 f22 g0 g1 g2
  go_wp2_with fail
  refine (highest_any U s1 m z _ hrn1 P1.out.ue (HR.out _ P1.out.gb)).mono ?_
  rintro e w2 ⟨rfl, hb⟩
  rw [HOK.out]
  have P2 : Hid (Wt w U s1 m z w2) := P1.out.next hb hU0
  clear hb P1
  go_wp2_with fail
  refine (dereg_free U s1 _ HST.out HT1.out.2.1 hsn1 P2.out.ue P2.out.ses).mono ?_
  rintro e w3 ⟨v3, rfl, ho, hg, hU3⟩
  have sz2 := P2.out.gb.size
  have hO3 : w3.ownsRow w.heap.size 71 1 v3 1 [deregV] := own_mono ho sz2
  have HO : Hid (w3.ownsRow w.heap.size 71 1 v3 1 [deregV]) := hO3
  have HG3 : Hid (w.grownBy w3 (some U)) := gb_trans P2.out.gb hg
  have HU3 : Hid (UEAt w3 U { s with sor := cl, st := 6, reg := 1, sa := none, sn := 0, sc := 0, va := none, vn := 0, vc := 0 }) := by rw [HS1.out] at hU3; exact hU3
  have sz3 := HG3.out.size
  clear ho hg hU3 P2 hO3
  go_wp2_with (at_builtin; refine wpList_appendS rfl (.tmp 33) (.tmp 35) 64 rfl w.heap.size w.heap.size 71 _ 1 16 Ybad.underlying64 Ybad.info71 rfl (by decide) (by decide) (.slice none 0 0) v3 0 1 [] [deregV] rfl rfl (World.ownsRow_nil _ _ _ _) HO.out (by simp [deregV, Value.oneCell']) (by omega) sz3 ?_)
  intro v4 w4 ho4 hg4
  have HG4 : Hid (w.grownBy w4 (some U)) := gb_own HG3.out hg4 (by simp [Value.ownBlock])
  have HU4 : Hid (UEAt w4 U { s with sor := cl, st := 6, reg := 1, sa := none, sn := 0, sc := 0, va := none, vn := 0, vc := 0 }) := HU3.out.kept hg4 (by simp [Value.ownBlock])
  have HO4 : Hid (w4.ownsRow w.heap.size 71 1 v4 (0 + 1) ([] ++ [deregV])) := ho4
  clear ho4 hg4 HG3 HU3 HO
  go_wp2
  go_ret
  exact ⟨_, rfl, HO4.out, HG4.out, HU4.out⟩
set_option maxHeartbeats 2000000 in
set_option maxRecDepth 100000 in
theorem wait_start (U : Nat) (s : UEs) (cl : ByteArray) (m : Nat → Bool) (z : Nat → Int) (w : World) (hU0 : U ≠ 0) (hta : s.ta = none ∧ s.tn = 0 ∧ s.tc = 0) (hst : s.st = 4) (hrn : s.rn ≤ 1025) (hsn : s.sn ≤ 1024) (hok : okV m s.rn = true) (hv : 0 < hiV z m s.rn)
    (hU : UEAt w U s) (hR : Rws w U s.ra s.rn 6 (rulF m z)) (hS : Rws w U s.sa s.sn 5 sessF) (hG : Glob w) :
    Calls Ybad.prog 11 #[.pointer (some ⟨U, 0, none⟩), .string cl, .agg #[.int .u64 0, .int .i64 0, .pointer none]] w fun e w' => ∃ v, e = .returned v ∧
      w'.ownsRow w.heap.size 71 1 v 1 [startV (hiV z m s.rn)] ∧ w.grownBy w' (some U) ∧ ∃ g c, UEAt w' U { s with sor := cl, ta := some ⟨g, 0, none⟩, tn := 1, tc := c } := by
  have hlt := hU.lt
  have c22 := hU.c22
  have f22 := hU.free 22
  obtain ⟨g0, g1, g2⟩ := hG
  have hb0 : ¬ U = 0 := hU0
  have hb0' : ¬ 0 = U := fun h => hU0 h.symm
  have hl0 : 0 < w.heap.size := by omega
  obtain ⟨s1, hs1⟩ : ∃ s1 : UEs, s1 = { s with sor := cl } := ⟨_, rfl⟩
  have P0 : Hid (Wt w U s1 m z ((w.setCell ⟨U, 22, none⟩ (.string cl)).alloc (.cells #[.int .u64 0, .int .i64 0, .pointer none] 40))) := by
    have gg : w.grownBy ((w.setCell ⟨U, 22, none⟩ (.string cl)).alloc (.cells #[.int .u64 0, .int .i64 0, .pointer none] 40)) (some U) := gb_alloc (gb_set (gb_refl _ _) _ _) _
    refine ⟨?_, ?_, gg, Glob.kept ⟨g0, g1, g2⟩ gg hU0, ?_⟩
    · rw [hs1]; exact At.alloc (hU.set22 cl) _
    · have := At.new (w.setCell ⟨U, 22, none⟩ (.string cl)) (.cells #[.int .u64 0, .int .i64 0, .pointer none] 40)
      rwa [show (w.setCell ⟨U, 22, none⟩ (.string cl)).heap.size = w.heap.size by simp [World.setCell]] at this
    · rw [hs1]; exact hS.kept gg
  have HR : Hid (∀ w', w.grownBy w' (some U) → Rws w' U s1.ra s1.rn 6 (rulF m z)) := fun w' hg => by rw [hs1]; exact hR.kept hg
  have HT1 : Hid (s1.ta = none ∧ s1.tn = 0 ∧ s1.tc = 0) := by rw [hs1]; exact hta
  have HST : Hid (s1.st = 4) := by rw [hs1]; exact hst
  have hrn1 : s1.rn ≤ 1025 := by rw [hs1]; exact hrn
  have hsn1 : s1.sn ≤ 1024 := by rw [hs1]; exact hsn
  have HOK : Hid (okV m s1.rn = true) := by rw [hs1]; exact hok
  have HV : Hid (hiV z m s.rn = hiV z m s1.rn) := by rw [hs1]; rfl
  have hv1 : 0 < hiV z m s1.rn := by rw [hs1]; exact hv
  have HS1 : Hid (s1 = { s with sor := cl }) := hs1
  clear hs1 hta hst hok hrn hsn hR hS hU hv
  go_enter Ybad.func11, Ybad.ntmps11
  go_wp2_with fail
  refine (runs_none U s1 _ _ _ _ HT1.out.2.1 ?_).mono ?_
  · exact P0.out.ue
  rintro e w1 ⟨rfl, hb⟩
  have P1 : Hid (Wt w U s1 m z w1) := P0.out.next hb hU0
  clear hb P0 c22 f22 g0 g1 g2
  go_wp2_with fail
  refine (highest_any U s1 m z _ hrn1 P1.out.ue (HR.out _ P1.out.gb)).mono ?_
  rintro e w2 ⟨rfl, hb⟩
  rw [HOK.out]
  have P2 : Hid (Wt w U s1 m z w2) := P1.out.next hb hU0
  clear hb P1
  obtain ⟨vv, hvv⟩ : ∃ vv, vv = hiV z m s1.rn := ⟨_, rfl⟩
  rw [← hvv] at hv1
  rw [← hvv]
  have HVV : Hid (vv = hiV z m s1.rn) := hvv
  clear hvv
  have g0 := P2.out.gl.1
  have g1 := P2.out.gl.2.1
  have g2 := P2.out.gl.2.2
  have b0 := P2.out.box.cell 0
  have b1 := P2.out.box.cell 1
  have b2 := P2.out.box.cell 2
  have bl := P2.out.box.lt
  have hNU : ¬ w.heap.size = U := by omega
  have hs1e : { s1 with ta := none, tn := 0, tc := 0 } = s1 := by
    have := HT1.out
    cases s1
    simp_all
  have HE : Hid ({ s1 with ta := none, tn := 0, tc := 0 } = s1) := hs1e
  clear hs1e
  have sz2 := P2.out.gb.size
  go_wp2_with fail
  go_region_held3 (fun w' => w'.cell? ⟨0, 0, none⟩ = some (.int .u8 0) ∧ w'.cell? ⟨0, 1, none⟩ = some (.string ⟨#[]⟩) ∧ w'.cell? ⟨0, 2, none⟩ = some (.bool true) ∧ w'.cell? ⟨w.heap.size, 0, none⟩ = some (.int .u64 0) ∧ w'.cell? ⟨w.heap.size, 1, none⟩ = some (.int .i64 0) ∧ w'.cell? ⟨w.heap.size, 2, none⟩ = some (.pointer none))
    ((go_split_ands; (refine ⟨?_, ?_, ?_, ?_, ?_, ?_⟩) <;> first | (simp [*]; done) | (exact hkeep2 _ _ (by simp <;> omega) (by assumption)) | (exact hkeep3 _ _ (by simp <;> omega) (by assumption)) | (exact hkeep4 _ _ (by simp <;> omega) (by assumption)) | fail))
    ((first | (go_at_call 18; refine (stop_any U s1 _ (fun _ => 0) _ ?_ ?_ ?_).mono ?_; (rw [HT1.out.2.1]; omega); exact P2.out.ue; (intro j hj; rw [HT1.out.2.1] at hj; omega); rintro e w3 ⟨v3, rfl, ho3, hg3, hU3⟩; rw [HE.out] at hU3; rw [HT1.out.2.1] at ho3; have hkeep2 : ∀ (ad : Addr) (v : Value), ad.block ≠ U → w2.cell? ad = some v → w3.cell? ad = some v := fun ad v hne hc => hg3.cell hc (fun e => hne (Option.some.inj e))) | (go_at_call 23; refine (start_some U s1 vv hv1 _ HT1.out hU3).mono ?_; rintro e w4 ⟨v4, rfl, ho4, hg4, hU4⟩; have hkeep3 : ∀ (ad : Addr) (v : Value), ad.block ≠ U → w3.cell? ad = some v → w4.cell? ad = some v := fun ad v hne hc => hg4.cell hc (fun e => hne (Option.some.inj e))) | (have how : w4.ownsRow w.heap.size 71 1 v3 0 [] := (own_mono ho3 sz2).kept hg4 (.inr (fun e => by have := own_ge ho3 U e; simp at this; omega)); have hoy : w4.ownsRow w.heap.size 71 1 v4 1 [startV vv] := own_mono ho4 (Nat.le_trans sz2 hg3.size); have hsz4 : w.heap.size ≤ w4.heap.size := Nat.le_trans (Nat.le_trans sz2 hg3.size) hg4.size; refine step_appendS (by rfl) (.tmp 26) (.tmp 31) 64 (by rfl) w.heap.size w.heap.size 71 _ 1 16 Ybad.underlying64 Ybad.info71 (by rfl) (by decide) (by decide) v3 v4 0 1 [] [startV vv] (by simp [Act.eval]) (by simp [Act.eval]) how hoy (by simp [startV, Value.oneCell']) (by omega) hsz4 ?_; intro v5 w5 ho5 hg5; have hkeep4 : ∀ (ad : Addr) (v : Value), ad.block < w2.heap.size → w4.cell? ad = some v → w5.cell? ad = some v := fun ad v hlt4 hc => hg5.cell hc (fun e => by have := own_ge ho3 _ e.symm; simp at this; omega)) | fail))
  rename_i hh
  clear hh
  obtain ⟨gg, cc, hU4⟩ := hU4
  have hU5 : UEAt w5 U { s1 with ta := some ⟨gg, 0, none⟩, tn := 1, tc := cc } := hU4.kept hg5 (fun e => by have := own_ge ho3 U e.symm; simp at this; omega)
  have HG5 : Hid (w.grownBy w5 (some U)) := gb_own (gb_trans (gb_trans (gb_drew P2.out.gb) hg3) hg4) hg5 (fun g e => by have := own_ge ho3 g e; simp at this; omega)
  have HU5 : Hid (UEAt w5 U { s1 with ta := some ⟨gg, 0, none⟩, tn := 1, tc := cc }) := hU5
  have HO5 : Hid (w5.ownsRow w.heap.size 71 1 v5 (0 + 1) ([] ++ [startV vv])) := ho5
  have sz5 := HG5.out.size
  clear ho3 ho4 ho5 hg3 hg4 hg5 hU3 hU4 hU5 P2 g0 g1 g2 b0 b1 b2
  go_wp2_with fail
  refine (dereg_held U { s1 with ta := some ⟨gg, 0, none⟩, tn := 1, tc := cc } _ HST.out (by show 0 < 1; omega) HU5.out).mono ?_
  rintro e w6 ⟨rfl, hw6⟩
  subst hw6
  go_wp2_with (at_builtin; refine wpList_appendS rfl (.tmp 33) (.tmp 35) 64 rfl w.heap.size w.heap.size 71 _ 1 16 Ybad.underlying64 Ybad.info71 rfl (by decide) (by decide) v5 (.slice none 0 0) (0 + 1) 0 ([] ++ [startV vv]) [] rfl rfl HO5.out (World.ownsRow_nil _ _ _ _) (by simp) (by omega) sz5 ?_)
  intro v7 w7 ho7 hg7
  have HG7 : Hid (w.grownBy w7 (some U)) := gb_own HG5.out hg7 (own_ge HO5.out)
  have HU7 : Hid (UEAt w7 U { s1 with ta := some ⟨gg, 0, none⟩, tn := 1, tc := cc }) := HU5.out.kept hg7 (fun e => by have := own_ge HO5.out U e.symm; omega)
  have HO7 : Hid (w7.ownsRow w.heap.size 71 1 v7 (0 + 1 + 0) (([] ++ [startV vv]) ++ [])) := ho7
  clear ho7 hg7 HG5 HU5 HO5
  go_wp2
  go_ret
  refine ⟨_, rfl, ?_, HG7.out, gg, cc, ?_⟩
  · have := HO7.out; rw [HVV.out, ← HV.out] at this; simpa using this
  · have := HU7.out; rw [HS1.out] at this; exact this

set_option maxHeartbeats 2000000 in
set_option maxRecDepth 100000 in
theorem wait_zero (U : Nat) (s : UEs) (cl : ByteArray) (m : Nat → Bool) (z : Nat → Int) (w : World) (hU0 : U ≠ 0) (hta : s.ta = none ∧ s.tn = 0 ∧ s.tc = 0) (hst : s.st = 4) (hrn : s.rn ≤ 1025) (hsn : s.sn ≤ 1024) (hok : okV m s.rn = true) (hv : hiV z m s.rn ≤ 0)
    (hU : UEAt w U s) (hR : Rws w U s.ra s.rn 6 (rulF m z)) (hS : Rws w U s.sa s.sn 5 sessF) (hG : Glob w) :
    Calls Ybad.prog 11 #[.pointer (some ⟨U, 0, none⟩), .string cl, .agg #[.int .u64 0, .int .i64 0, .pointer none]] w fun e w' => ∃ v, e = .returned v ∧
      w'.ownsRow w.heap.size 71 1 v 1 [deregV] ∧ w.grownBy w' (some U) ∧ UEAt w' U { s with sor := cl, st := 6, reg := 1, sa := none, sn := 0, sc := 0, va := none, vn := 0, vc := 0 } := by
  have hlt := hU.lt
  have c22 := hU.c22
  have f22 := hU.free 22
  obtain ⟨g0, g1, g2⟩ := hG
  have hb0 : ¬ U = 0 := hU0
  have hb0' : ¬ 0 = U := fun h => hU0 h.symm
  have hl0 : 0 < w.heap.size := by omega
  obtain ⟨s1, hs1⟩ : ∃ s1 : UEs, s1 = { s with sor := cl } := ⟨_, rfl⟩
  have P0 : Hid (Wt w U s1 m z ((w.setCell ⟨U, 22, none⟩ (.string cl)).alloc (.cells #[.int .u64 0, .int .i64 0, .pointer none] 40))) := by
    have gg : w.grownBy ((w.setCell ⟨U, 22, none⟩ (.string cl)).alloc (.cells #[.int .u64 0, .int .i64 0, .pointer none] 40)) (some U) := gb_alloc (gb_set (gb_refl _ _) _ _) _
    refine ⟨?_, ?_, gg, Glob.kept ⟨g0, g1, g2⟩ gg hU0, ?_⟩
    · rw [hs1]; exact At.alloc (hU.set22 cl) _
    · have := At.new (w.setCell ⟨U, 22, none⟩ (.string cl)) (.cells #[.int .u64 0, .int .i64 0, .pointer none] 40)
      rwa [show (w.setCell ⟨U, 22, none⟩ (.string cl)).heap.size = w.heap.size by simp [World.setCell]] at this
    · rw [hs1]; exact hS.kept gg
  have HR : Hid (∀ w', w.grownBy w' (some U) → Rws w' U s1.ra s1.rn 6 (rulF m z)) := fun w' hg => by rw [hs1]; exact hR.kept hg
  have HT1 : Hid (s1.ta = none ∧ s1.tn = 0 ∧ s1.tc = 0) := by rw [hs1]; exact hta
  have HST : Hid (s1.st = 4) := by rw [hs1]; exact hst
  have hrn1 : s1.rn ≤ 1025 := by rw [hs1]; exact hrn
  have hsn1 : s1.sn ≤ 1024 := by rw [hs1]; exact hsn
  have HOK : Hid (okV m s1.rn = true) := by rw [hs1]; exact hok
  have HV : Hid (hiV z m s.rn = hiV z m s1.rn) := by rw [hs1]; rfl
  have hv1 : hiV z m s1.rn ≤ 0 := by rw [hs1]; exact hv
  have HS1 : Hid (s1 = { s with sor := cl }) := hs1
  clear hs1 hta hst hok hrn hsn hR hS hU hv
  go_enter Ybad.func11, Ybad.ntmps11
  go_wp2_with fail
  refine (runs_none U s1 _ _ _ _ HT1.out.2.1 ?_).mono ?_
  · exact P0.out.ue
  rintro e w1 ⟨rfl, hb⟩
  have P1 : Hid (Wt w U s1 m z w1) := P0.out.next hb hU0
  clear hb P0 c22 f22 g0 g1 g2
  go_wp2_with fail
  refine (highest_any U s1 m z _ hrn1 P1.out.ue (HR.out _ P1.out.gb)).mono ?_
  rintro e w2 ⟨rfl, hb⟩
  rw [HOK.out]
  have P2 : Hid (Wt w U s1 m z w2) := P1.out.next hb hU0
  clear hb P1
  obtain ⟨vv, hvv⟩ : ∃ vv, vv = hiV z m s1.rn := ⟨_, rfl⟩
  rw [← hvv] at hv1
  rw [← hvv]
  have HVV : Hid (vv = hiV z m s1.rn) := hvv
  clear hvv
  have g0 := P2.out.gl.1
  have g1 := P2.out.gl.2.1
  have g2 := P2.out.gl.2.2
  have b0 := P2.out.box.cell 0
  have b1 := P2.out.box.cell 1
  have b2 := P2.out.box.cell 2
  have bl := P2.out.box.lt
  have hNU : ¬ w.heap.size = U := by omega
  have hs1e : { s1 with ta := none, tn := 0, tc := 0 } = s1 := by
    have := HT1.out
    cases s1
    simp_all
  have HE : Hid ({ s1 with ta := none, tn := 0, tc := 0 } = s1) := hs1e
  clear hs1e
  have sz2 := P2.out.gb.size
  go_wp2_with fail
  go_region_held3 (fun w' => w'.cell? ⟨0, 0, none⟩ = some (.int .u8 0) ∧ w'.cell? ⟨0, 1, none⟩ = some (.string ⟨#[]⟩) ∧ w'.cell? ⟨0, 2, none⟩ = some (.bool true) ∧ w'.cell? ⟨w.heap.size, 0, none⟩ = some (.int .u64 0) ∧ w'.cell? ⟨w.heap.size, 1, none⟩ = some (.int .i64 0) ∧ w'.cell? ⟨w.heap.size, 2, none⟩ = some (.pointer none))
    ((go_split_ands; (refine ⟨?_, ?_, ?_, ?_, ?_, ?_⟩) <;> first | (simp [*]; done) | (exact hkeep2 _ _ (by simp <;> omega) (by assumption)) | (exact hkeep3 _ _ (by simp <;> omega) (by assumption)) | (exact hkeep4 _ _ (by simp <;> omega) (by assumption)) | fail))
    ((first | (go_at_call 18; refine (stop_any U s1 _ (fun _ => 0) _ ?_ ?_ ?_).mono ?_; (rw [HT1.out.2.1]; omega); exact P2.out.ue; (intro j hj; rw [HT1.out.2.1] at hj; omega); rintro e w3 ⟨v3, rfl, ho3, hg3, hU3⟩; rw [HE.out] at hU3; rw [HT1.out.2.1] at ho3; have hkeep2 : ∀ (ad : Addr) (v : Value), ad.block ≠ U → w2.cell? ad = some v → w3.cell? ad = some v := fun ad v hne hc => hg3.cell hc (fun e => hne (Option.some.inj e))) | (go_at_call 23; refine (start_none U vv hv1 _).mono ?_; rintro e w4 ⟨rfl, hb4⟩; have hkeep3 : ∀ (ad : Addr) (v : Value), ad.block ≠ U → w3.cell? ad = some v → w4.cell? ad = some v := fun ad v _ hc => (hb4.cell (block_lt_of_cell hc)).trans hc) | (have how : w4.ownsRow w.heap.size 71 1 v3 0 [] := (own_mono ho3 sz2).kept (gb_below hb4 (some U)) (.inr (fun e => by have := own_ge ho3 U e; simp at this; omega)); have hsz4 : w.heap.size ≤ w4.heap.size := Nat.le_trans (Nat.le_trans sz2 hg3.size) hb4.size; refine step_appendS (by rfl) (.tmp 26) (.tmp 31) 64 (by rfl) w.heap.size w.heap.size 71 _ 1 16 Ybad.underlying64 Ybad.info71 (by rfl) (by decide) (by decide) v3 (.slice none 0 0) 0 0 [] [] (by simp [Act.eval]) (by simp [Act.eval]) how (World.ownsRow_nil _ _ _ _) (by simp) (by omega) hsz4 ?_; intro v5 w5 ho5 hg5; have hkeep4 : ∀ (ad : Addr) (v : Value), ad.block < w2.heap.size → w4.cell? ad = some v → w5.cell? ad = some v := fun ad v hlt4 hc => hg5.cell hc (fun e => by have := own_ge ho3 _ e.symm; simp at this; omega)) | fail))
  rename_i hh
  clear hh
  have hU4 : UEAt w4 U s1 := hU3.below hb4 hU3.lt
  have hU5 : UEAt w5 U s1 := hU4.kept hg5 (fun e => by have := own_ge ho3 U e.symm; simp at this; omega)
  have hG4 : w.grownBy w4 (some U) := gb_trans (gb_trans (gb_drew P2.out.gb) hg3) (gb_below hb4 _)
  have hS5 : Rws w5 U s1.sa s1.sn 5 sessF := by
    have h4 : Rws w4 U s1.sa s1.sn 5 sessF := (P2.out.ses.kept (gb_trans (gb_drew (gb_refl _ _)) hg3)).kept (gb_below hb4 _)
    intro j hj
    obtain ⟨g, e, hne, hlt4, hc⟩ := h4 j hj
    obtain ⟨g', e', _, hlt2, _⟩ := P2.out.ses j hj
    have hgg : g = g' := by rw [e] at e'; simpa using e'
    exact ⟨g, e, hne, Nat.lt_of_lt_of_le hlt4 hg5.size, fun i v hv => hg5.cell (hc i v hv) (fun ee => by have := own_ge ho3 _ ee.symm; simp at this; omega)⟩
  have HG5 : Hid (w.grownBy w5 (some U)) := gb_own hG4 hg5 (fun g e => by have := own_ge ho3 g e; simp at this; omega)
  have HU5 : Hid (UEAt w5 U s1) := hU5
  have HS5 : Hid (Rws w5 U s1.sa s1.sn 5 sessF) := hS5
  have HO5 : Hid (w5.ownsRow w.heap.size 71 1 v5 (0 + 0) ([] ++ [])) := ho5
  have sz5 := HG5.out.size
  clear ho3 ho5 hg3 hb4 hg5 hU3 hU4 hU5 P2 g0 g1 g2 b0 b1 b2 hG4 hS5
  go_wp2_with fail
  refine (dereg_free U s1 _ HST.out HT1.out.2.1 hsn1 HU5.out HS5.out).mono ?_
  rintro e w6 ⟨v6, rfl, ho6, hg6, hU6⟩
  have HO6 : Hid (w6.ownsRow w.heap.size 71 1 v6 1 [deregV]) := own_mono ho6 sz5
  have HG6 : Hid (w.grownBy w6 (some U)) := gb_trans HG5.out hg6
  have HO56 : Hid (w6.ownsRow w.heap.size 71 1 v5 (0 + 0) ([] ++ [])) := HO5.out.kept hg6 (.inr (fun e => by have := own_ge HO5.out U e; omega))
  have HU6 : Hid (UEAt w6 U { s with sor := cl, st := 6, reg := 1, sa := none, sn := 0, sc := 0, va := none, vn := 0, vc := 0 }) := by rw [HS1.out] at hU6; exact hU6
  have sz6 := HG6.out.size
  clear ho6 hg6 hU6 HG5 HU5 HO5
  go_wp2_with (at_builtin; refine wpList_appendS rfl (.tmp 33) (.tmp 35) 64 rfl w.heap.size w.heap.size 71 _ 1 16 Ybad.underlying64 Ybad.info71 rfl (by decide) (by decide) v5 v6 (0 + 0) 1 ([] ++ []) [deregV] rfl rfl HO56.out HO6.out (by simp [deregV, Value.oneCell']) (by omega) sz6 ?_)
  intro v7 w7 ho7 hg7
  have HG7 : Hid (w.grownBy w7 (some U)) := gb_own HG6.out hg7 (own_ge HO56.out)
  have HU7 : Hid (UEAt w7 U { s with sor := cl, st := 6, reg := 1, sa := none, sn := 0, sc := 0, va := none, vn := 0, vc := 0 }) := HU6.out.kept hg7 (fun e => by have := own_ge HO56.out U e.symm; omega)
  have HO7 : Hid (w7.ownsRow w.heap.size 71 1 v7 (0 + 0 + 1) (([] ++ []) ++ [deregV])) := ho7
  clear ho7 hg7 HG6 HU6 HO56 HO6
  go_wp2
  go_ret
  refine ⟨_, rfl, ?_, HG7.out, HU7.out⟩
  have := HO7.out; simpa using this

/-- What 'waitAfterFailedCheck' comes to: the timer of a failed check runs where a rule for it has a positive value; else the UE asks to be deregistered. -/
def WaitPost (B U : Nat) (s : UEs) (cl : ByteArray) (m : Nat → Bool) (z : Nat → Int) (v : Value) (w' : World) : Prop :=
  (okV m s.rn = true ∧ 0 < hiV z m s.rn ∧ w'.ownsRow B 71 1 v 1 [startV (hiV z m s.rn)] ∧ ∃ g c, UEAt w' U { s with sor := cl, ta := some ⟨g, 0, none⟩, tn := 1, tc := c }) ∨
  (¬ (okV m s.rn = true ∧ 0 < hiV z m s.rn) ∧ w'.ownsRow B 71 1 v 1 [deregV] ∧ UEAt w' U { s with sor := cl, st := 6, reg := 1, sa := none, sn := 0, sc := 0, va := none, vn := 0, vc := 0 })
theorem WaitPost.mono {B B' U : Nat} {s : UEs} {cl : ByteArray} {m : Nat → Bool} {z : Nat → Int} {v : Value} {w' : World} (h : WaitPost B U s cl m z v w') (hB : B' ≤ B) : WaitPost B' U s cl m z v w' := by
  rcases h with ⟨h1, h2, h3, h4⟩ | ⟨h1, h2, h3⟩
  · exact .inl ⟨h1, h2, own_mono h3 hB, h4⟩
  · exact .inr ⟨h1, own_mono h2 hB, h3⟩

theorem wait_any (U : Nat) (s : UEs) (cl : ByteArray) (m : Nat → Bool) (z : Nat → Int) (w : World) (hU0 : U ≠ 0) (hta : s.ta = none ∧ s.tn = 0 ∧ s.tc = 0) (hst : s.st = 4) (hrn : s.rn ≤ 1025) (hsn : s.sn ≤ 1024)
    (hU : UEAt w U s) (hR : Rws w U s.ra s.rn 6 (rulF m z)) (hS : Rws w U s.sa s.sn 5 sessF) (hG : Glob w) :
    Calls Ybad.prog 11 #[.pointer (some ⟨U, 0, none⟩), .string cl, .agg #[.int .u64 0, .int .i64 0, .pointer none]] w fun e w' => ∃ v, e = .returned v ∧ w.grownBy w' (some U) ∧ WaitPost w.heap.size U s cl m z v w' := by
  by_cases hok : okV m s.rn = true
  · by_cases hv : 0 < hiV z m s.rn
    · refine (wait_start U s cl m z w hU0 hta hst hrn hsn hok hv hU hR hS hG).mono ?_
      rintro e w' ⟨v, rfl, ho, hg, hx⟩
      exact ⟨v, rfl, hg, .inl ⟨hok, hv, ho, hx⟩⟩
    · refine (wait_zero U s cl m z w hU0 hta hst hrn hsn hok (by omega) hU hR hS hG).mono ?_
      rintro e w' ⟨v, rfl, ho, hg, hx⟩
      exact ⟨v, rfl, hg, .inr ⟨fun h => hv h.2, ho, hx⟩⟩
  · refine (wait_none U s cl m z w hU0 hta hst hrn hsn (by simpa using hok) hU hR hS hG).mono ?_
    rintro e w' ⟨v, rfl, ho, hg, hx⟩
    exact ⟨v, rfl, hg, .inr ⟨fun h => hok h.1, ho, hx⟩⟩

set_option maxHeartbeats 1000000 in
set_option maxRecDepth 100000 in
theorem hold_wait (U : Nat) (s : UEs) (m : Nat → Bool) (z : Nat → Int) (w : World) (hU0 : U ≠ 0) (hta : s.ta = none ∧ s.tn = 0 ∧ s.tc = 0) (hst : s.st = 4) (hr : 0 < s.rn) (hrn : s.rn ≤ 1025) (hb1 : 0 < s.sn) (hsn : s.sn ≤ 1024)
    (hU : UEAt w U s) (hR : Rws w U s.ra s.rn 6 (rulF m z)) (hS : Rws w U s.sa s.sn 5 sessF) (hG : Glob w) :
    Calls Ybad.prog 7 #[.pointer (some ⟨U, 0, none⟩), .agg #[.int .u64 0, .int .i64 0, .pointer none]] w fun e w' => ∃ v, e = .returned v ∧ w.grownBy w' (some U) ∧ WaitPost w.heap.size U s sorB m z v w' := by
  have hlt := hU.lt
  have HB : Hid ((decide (0 < s.sn) || decide (0 < s.vn)) = true) := by show (decide (0 < s.sn) || decide (0 < s.vn)) = true; simp [hb1]
  have HTA : Hid (s.ta = none ∧ s.tn = 0 ∧ s.tc = 0) := hta
  have HST : Hid (s.st = 4) := hst
  clear hta hst
  have HU0 : Hid (UEAt (w.alloc (.cells #[.int .u64 0, .int .i64 0, .pointer none] 40)) U s) := At.alloc hU _
  go_enter Ybad.func7, Ybad.ntmps7
  go_wp2_with fail
  refine (higher_none U s _ HU0.out).mono ?_
  rintro e w1 ⟨rfl, hb⟩
  have hg1 : w.grownBy w1 (some U) := gb_trans (World.grownBy_alloc _ _ _) (gb_below hb _)
  have hU1 : UEAt w1 U s := HU0.out.below hb HU0.out.lt
  have l1 := hU1.lt
  obtain ⟨la, lb, lc, ld, le⟩ := ltUp l1
  have c11 := hU1.c11
  have hr1 : ((s.rn : Int) == 0) = false := by simp; omega
  have bx : At w1 w.heap.size (.cells #[.int .u64 0, .int .i64 0, .pointer none] 40 (0, 0)) := At.below (At.new w _) hb (by simp)
  have x0 := bx.cell 0
  have x1 := bx.cell 1
  have x2 := bx.cell 2
  have xl := bx.lt
  obtain ⟨xa, xb, xc, xd, xe⟩ := ltUp xl
  have HG1 : Hid (w.grownBy w1 (some U)) := hg1
  have HU1 : Hid (UEAt w1 U s) := hU1
  have HGX : Hid (w.grownBy ((w1.alloc (.cells #[.int .i64 0, .string ⟨#[]⟩, .int .u8 0] 61)).alloc (.cells #[.int .u8 0, .int .i64 0] 97)) (some U)) := gb_alloc (gb_alloc hg1 _) _
  clear hg1 hU1 hb HU0 bx
  go_wp2_with fail
  refine (busy_any U s _ ?_).mono ?_
  · exact (At.alloc HU1.out _).alloc _
  rintro e w2 ⟨rfl, hw2⟩
  rw [HB.out]
  subst hw2
  go_wp2_with fail
  refine (wait_any U s _ m z _ hU0 HTA.out HST.out hrn hsn ?_ ?_ ?_ ?_).mono ?_
  · exact (At.alloc HU1.out _).alloc _
  · exact hR.kept HGX.out
  · exact hS.kept HGX.out
  · exact hG.kept HGX.out hU0
  rintro e w3 ⟨v3, rfl, hg3, hp3⟩
  have HP : Hid (WaitPost w.heap.size U s sorB m z v3 w3) := hp3.mono (by have := HG1.out.size; simp; omega)
  have HG3 : Hid (w.grownBy w3 (some U)) := gb_trans HGX.out hg3
  clear hg3 hp3
  go_wp2
  go_ret
  exact ⟨_, rfl, HG3.out, HP.out⟩
end Go.Proofs.YbulkrqsDoor
