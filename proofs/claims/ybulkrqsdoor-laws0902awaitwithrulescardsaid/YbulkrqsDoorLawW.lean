/-
  Seat b0902aD. THE WALKS OF 'LawS0902AWaitWithRules' (function 4).
-/
import Derived.Test.YbulkrqsDoorWaits
namespace Go.Proofs.YbulkrqsDoor
open Go.RowKit

theorem Ybad.info33 : (Ybad.prog.info? 33).map (fun i => (i.zero, i.size, i.bytes)) = some (some (.agg #[.string ByteArray.empty, .string ByteArray.empty, .int .u8 0, .int .u32 0, .string ByteArray.empty, .int .i64 0]), 6, 64) := by kernel_rfl

/-- The law's rules: one 'match all' of 5, then those of the argument. -/
def mm (sec : Nat → Bool) : Nat → Bool
  | 0 => false
  | k + 1 => sec k
def zz (d : Nat → Int) : Nat → Int
  | 0 => 5
  | k + 1 => d k

/-- The argument's rules: two cells each. -/
def In2 (w : World) (B : Nat) (a : Option Addr) (len : Nat) (sec : Nat → Bool) (d : Nat → Int) : Prop :=
  ∀ k, k < len → ∃ b off, a = some ⟨b, off, none⟩ ∧ b < B ∧ w.cell? ⟨b, off + k * 2, none⟩ = some (.bool (sec k)) ∧ w.cell? ⟨b, off + k * 2 + 1, none⟩ = some (.int .i64 (d k))
theorem In2.below {w w' : World} {B B' : Nat} {a : Option Addr} {len : Nat} {sec : Nat → Bool} {d : Nat → Int} (h : In2 w B a len sec d) (hb : Below B' w w') (hB : B ≤ B') : In2 w' B a len sec d := fun k hk => by
  obtain ⟨b, off, e, hlt, hc, hc'⟩ := h k hk
  exact ⟨b, off, e, hlt, (hb.cell (by show b < B'; omega)).trans hc, (hb.cell (by show b < B'; omega)).trans hc'⟩
theorem run_index83 (a : Option Addr) (b off len cap k : Nat) (ha : a = some ⟨b, off, none⟩) (hk : k < len) (w : World) :
    (Instr.indexAt 83 (.slice a len cap) (.int .i64 (k : Int))).run Ybad.prog w = .ok (.pointer (some ⟨b, off + k * 2, none⟩)) w := by
  subst ha
  have hs : (sizeOf (Ybad.prog.elem 83)).run Ybad.prog w = .ok 2 w := by kernel_rfl
  rw [run_indexAt_slice w 83 _ _ _ _ _ (by kernel_rfl), if_pos (by omega), hs]
  simp only [Result.andThen_ok, Int.toNat_natCast]
  rw [Addr.add_mid]

theorem Glob.below {B : Nat} {w w' : World} (h : Glob w) (hb : Below B w w') (hB : 0 < B) : Glob w' :=
  ⟨(hb.cell (p := ⟨0, 0, none⟩) hB).trans h.1, (hb.cell (p := ⟨0, 1, none⟩) hB).trans h.2.1, (hb.cell (p := ⟨0, 2, none⟩) hB).trans h.2.2⟩
theorem below_new' {B : Nat} {w w2 w3 : World} {o : Obj} (h : Below B w w2) (hB : B ≤ w2.heap.size) (hg : (w2.alloc o).grownBy w3 (some w2.heap.size)) : Below B w w3 :=
  (h.alloc hB o).trans ⟨hg.os, hg.tape, hg.output, hg.size, fun i hi => hg.block i (by simp; omega) (by simp; omega)⟩
theorem rws_new' {w : World} {B e size n : Nat} {a : Option Addr} {c : Nat} {f : Nat → List Value} (hf : ∀ j, (f j).length = size) (h : w.ownsRow B e size (.slice a n c) n (flat f n)) (o : Obj) : Rws (w.alloc o) w.heap.size a n size f := fun j hj => by
  rcases h.2 with ⟨hv, h0⟩ | ⟨g, cap, cur, hv, hb, hg, _⟩
  · omega
  · obtain ⟨rfl, _, rfl⟩ : a = some ⟨g, 0, none⟩ ∧ n = n ∧ c = cap := by simpa using hv
    have hgl := lt_of_block hg
    refine ⟨g, rfl, by omega, by simp; omega, fun i v hiv => ?_⟩
    have hi : i < size := by have := (List.getElem?_eq_some_iff.1 hiv).1; rw [hf] at this; exact this
    have hlt : j * size + i < n * size := by
      have : (j + 1) * size ≤ n * size := Nat.mul_le_mul_right _ (by omega)
      rw [Nat.succ_mul] at this; omega
    rw [World.cell?_alloc_past _ _ _ hgl, h.cellAt (j * size + i) hlt, flat_get hf n j i hj hi, hiv]
theorem own_below' {w w' : World} {B e size n : Nat} {v : Value} {xs : List Value} (h : w.ownsRow B e size v n xs) (hb : Below w.heap.size w w') : w'.ownsRow B e size v n xs :=
  h.kept (gb_below hb none) (by cases v.ownBlock <;> simp)

theorem as87 (a : Int) (b : ByteArray) (c : Bool) (d : Int) (e : ByteArray) (w : World) : (Instr.typeAssert (.iface 87 (.agg #[.int .u8 a, .string b, .bool c, .int .i64 d, .string e])) 71 87 true).run Ybad.prog w = .ok (.tuple #[.agg #[.int .u8 a, .string b, .bool c, .int .i64 d, .string e], .bool true]) w := by kernel_rfl
theorem as90 (x : ByteArray) (w : World) : (Instr.typeAssert (.iface 90 (.agg #[.string x])) 71 90 true).run Ybad.prog w = .ok (.tuple #[.agg #[.string x], .bool true]) w := by kernel_rfl
theorem nil54 (w : World) : (binOp .eql 54 (.slice none 0 0) (.slice none 0 0)).run Ybad.prog w = .ok (.bool true) w := by kernel_rfl
theorem nil56 (w : World) : (binOp .eql 56 (.slice none 0 0) (.slice none 0 0)).run Ybad.prog w = .ok (.bool true) w := by kernel_rfl

set_option maxRecDepth 100000 in
theorem lawW_long (nS : Int) (sa ra : Option Addr) (sl sc rl rc : Nat) (w : World) (h : 1024 < sl ∨ 1024 < rl) :
    Calls Ybad.prog 4 #[.int .u8 nS, .slice sa sl sc, .slice ra rl rc] w fun e w' => e = .returned (.bool true) ∧ Below w.heap.size w w' := by
  by_cases h1 : 1024 < sl
  · have h1' : (1024 : Int) < (sl : Int) := by omega
    clear h
    go_enter Ybad.func4, Ybad.ntmps4
    go_wp2
    go_ret
    exact ⟨rfl, Below.refl _ _⟩
  · have h1' : ¬ (1024 : Int) < (sl : Int) := by omega
    have h2' : (1024 : Int) < (rl : Int) := by omega
    clear h
    go_enter Ybad.func4, Ybad.ntmps4
    go_wp2
    go_ret
    exact ⟨rfl, Below.refl _ _⟩

set_option maxHeartbeats 4000000 in
set_option maxRecDepth 100000 in
theorem lawW_in (nS n : Nat) (sa ra : Option Addr) (sl sc rl rc : Nat) (fs : Nat → ByteArray) (sec : Nat → Bool) (d : Nat → Int) (w : World) (hS : nS ≤ 255) (hn0 : (nS : Int) % 3 + 1 = (n : Int)) (h1 : sl ≤ 1024) (h2 : rl ≤ 1024)
    (hl0 : 0 < w.heap.size) (hG : Glob w) (hs : In w w.heap.size sa sl (fun k => .string (fs k))) (hr : In2 w w.heap.size ra rl sec d) :
    Calls Ybad.prog 4 #[.int .u8 nS, .slice sa sl sc, .slice ra rl rc] w fun e w' => e = .returned (.bool true) ∧ Below w.heap.size w w' := by
  have g1 : decide ((1024 : Int) < (sl : Int)) = false := by simp; omega
  have g2 : decide ((1024 : Int) < (rl : Int)) = false := by simp; omega
  have HN : Hid ((nS : Int) % 3 + 1 = (n : Int)) := hn0
  have hn1 : 1 ≤ n := by omega
  have hn3 : n ≤ 3 := by omega
  clear hn0
  have hO : (w.alloc (.cells #[.string allB, .string ⟨#[]⟩, .int .u8 0, .int .u32 0, .string ⟨#[]⟩, .int .i64 5] 33)).ownsRow w.heap.size 33 6 (.slice (some ⟨w.heap.size, 0, none⟩) 1 1) 1 (flat (rulF (mm sec) (zz d)) 1) :=
    World.ownsRow_lit (base := w.heap.size) (e := 33) (size := 6) w #[.string allB, .string ⟨#[]⟩, .int .u8 0, .int .u32 0, .string ⟨#[]⟩, .int .i64 5] 1 (Nat.le_refl _) (by unfold maxLen; omega) (by simp)
  have HO : Hid ((w.alloc (.cells #[.string allB, .string ⟨#[]⟩, .int .u8 0, .int .u32 0, .string ⟨#[]⟩, .int .i64 5] 33)).ownsRow w.heap.size 33 6 (.slice (some ⟨w.heap.size, 0, none⟩) 1 1) 1 (flat (rulF (mm sec) (zz d)) 1)) := hO
  clear hO
  go_enter Ybad.func4, Ybad.ntmps4
  go_wp2_with fail
  go_loopw [8, 9, 10, 36] (fun v8 v9 v10 i wr => ∃ k : Nat, k ≤ rl ∧ i = .int .i64 k ∧ wr.ownsRow w.heap.size 33 6 v8 (k + 1) (flat (rulF (mm sec) (zz d)) (k + 1)) ∧ v9 = .int .i64 (hiV (zz d) (mm sec) (k + 1)) ∧ v10 = .bool (okV (mm sec) (k + 1)) ∧ Below w.heap.size w wr) (fun _ _ _ i _ => rl - (intOf i).toNat)
  case atStart => exact ⟨0, Nat.zero_le _, rfl, HO.out, rfl, rfl, (Below.refl _ _).alloc (Nat.le_refl _) _⟩
  case round =>
    obtain ⟨k, hk, rfl, hown, rfl, rfl, hbel⟩ := hrel
    by_cases hlt : k < rl
    · have hi2 : (k : Int) < (rl : Int) := by omega
      obtain ⟨b, off, ha, hb, hc, hc'⟩ := (hr.below hbel (Nat.le_refl _)) k hlt
      have hx := run_index83 ra b off rl rc k ha hlt
      have E1 : Hid (hiV (zz d) (mm sec) (k + 1 + 1) = if sec k then (if hiV (zz d) (mm sec) (k + 1) < d k then d k else hiV (zz d) (mm sec) (k + 1)) else hiV (zz d) (mm sec) (k + 1)) := (rfl : hiV (zz d) (mm sec) (k + 1 + 1) = _)
      have E2 : Hid (okV (mm sec) (k + 1 + 1) = if sec k then true else okV (mm sec) (k + 1)) := (rfl : okV (mm sec) (k + 1 + 1) = _)
      have E3 : Hid (flat (rulF (mm sec) (zz d)) (k + 1 + 1) = flat (rulF (mm sec) (zz d)) (k + 1) ++ [.string (critB (sec k)), .string ⟨#[]⟩, .int .u8 0, .int .u32 0, .string ⟨#[]⟩, .int .i64 (d k)]) := (rfl : flat (rulF (mm sec) (zz d)) (k + 1 + 1) = _)
      have hsz := hbel.size
      clear ha
      by_cases hsec : sec k = true
      · rw [hsec] at hc
        by_cases hlt2 : hiV (zz d) (mm sec) (k + 1) < d k
        · go_wp2_with (at_builtin; refine wpList_append1 rfl (.tmp 44) (.tmp 47) 25 rfl w.heap.size 33 _ 6 64 Ybad.underlying25 Ybad.info33 rfl (by decide) (by decide) (wr.alloc _) (wr.heap.size + 1) (by simp) _ (k + 1) (flat (rulF (mm sec) (zz d)) (k + 1)) [.string ⟨#[115, 101, 99, 117, 114, 105, 116, 121, 95, 99, 104, 101, 99, 107, 95, 102, 97, 105, 108, 101, 100]⟩, .string ⟨#[]⟩, .int .u8 0, .int .u32 0, .string ⟨#[]⟩, .int .i64 (d k)] (hown.alloc _) rfl rfl rfl (by simp [Value.oneCell']) (by omega) ?_ ?_)
          · first | omega | (simp; omega)
          intro v' w1 hown' hgr
          have hbel' : Below w.heap.size w w1 := (hbel.alloc hsz _).grown hgr (by simp; omega) (own_ge hown)
          have hown'' : w1.ownsRow w.heap.size 33 6 v' (k + 1 + 1) (flat (rulF (mm sec) (zz d)) (k + 1 + 1)) := by rw [E3.out, hsec]; exact hown'
          have r0 : w1.cell? ⟨wr.heap.size, 0, none⟩ = some (.bool true) := (hgr.cell_far ⟨wr.heap.size, 0, none⟩ (by simp) (fun e => by have := hown.lt _ e.symm; simp at this)).trans (by rw [World.cell?_alloc_at _ _ _ _ rfl]; rfl)
          have HO2 : Hid (w1.ownsRow w.heap.size 33 6 v' (k + 1 + 1) (flat (rulF (mm sec) (zz d)) (k + 1 + 1))) := hown''
          have HB2 : Hid (Below w.heap.size w w1) := hbel'
          clear hown hbel hgr hc hc' hx hown' hown'' hbel' r0
          go_wp2
          go_roundw
          case rel => exact ⟨k + 1, by omega, by go_num, HO2.out, by rw [E1.out, if_pos hsec, if_pos hlt2], by rw [E2.out, if_pos hsec], HB2.out⟩
          case measure => simp [intOf]; omega
        · go_wp2_with (at_builtin; refine wpList_append1 rfl (.tmp 44) (.tmp 47) 25 rfl w.heap.size 33 _ 6 64 Ybad.underlying25 Ybad.info33 rfl (by decide) (by decide) (wr.alloc _) (wr.heap.size + 1) (by simp) _ (k + 1) (flat (rulF (mm sec) (zz d)) (k + 1)) [.string ⟨#[115, 101, 99, 117, 114, 105, 116, 121, 95, 99, 104, 101, 99, 107, 95, 102, 97, 105, 108, 101, 100]⟩, .string ⟨#[]⟩, .int .u8 0, .int .u32 0, .string ⟨#[]⟩, .int .i64 (d k)] (hown.alloc _) rfl rfl rfl (by simp [Value.oneCell']) (by omega) ?_ ?_)
          · first | omega | (simp; omega)
          intro v' w1 hown' hgr
          have hbel' : Below w.heap.size w w1 := (hbel.alloc hsz _).grown hgr (by simp; omega) (own_ge hown)
          have hown'' : w1.ownsRow w.heap.size 33 6 v' (k + 1 + 1) (flat (rulF (mm sec) (zz d)) (k + 1 + 1)) := by rw [E3.out, hsec]; exact hown'
          have r0 : w1.cell? ⟨wr.heap.size, 0, none⟩ = some (.bool true) := (hgr.cell_far ⟨wr.heap.size, 0, none⟩ (by simp) (fun e => by have := hown.lt _ e.symm; simp at this)).trans (by rw [World.cell?_alloc_at _ _ _ _ rfl]; rfl)
          have HO2 : Hid (w1.ownsRow w.heap.size 33 6 v' (k + 1 + 1) (flat (rulF (mm sec) (zz d)) (k + 1 + 1))) := hown''
          have HB2 : Hid (Below w.heap.size w w1) := hbel'
          clear hown hbel hgr hc hc' hx hown' hown'' hbel' r0
          go_wp2
          go_roundw
          case rel => exact ⟨k + 1, by omega, by go_num, HO2.out, by rw [E1.out, if_pos hsec, if_neg (by omega)], by rw [E2.out, if_pos hsec], HB2.out⟩
          case measure => simp [intOf]; omega
      · have hsec2 : sec k = false := by simpa using hsec
        rw [hsec2] at hc
        go_wp2_with (at_builtin; refine wpList_append1 rfl (.tmp 53) (.tmp 56) 25 rfl w.heap.size 33 _ 6 64 Ybad.underlying25 Ybad.info33 rfl (by decide) (by decide) (wr.alloc _) (wr.heap.size + 1) (by simp) _ (k + 1) (flat (rulF (mm sec) (zz d)) (k + 1)) [.string ⟨#[109, 97, 116, 99, 104, 95, 97, 108, 108]⟩, .string ⟨#[]⟩, .int .u8 0, .int .u32 0, .string ⟨#[]⟩, .int .i64 (d k)] (hown.alloc _) rfl rfl rfl (by simp [Value.oneCell']) (by omega) ?_ ?_)
        · first | omega | (simp; omega)
        intro v' w1 hown' hgr
        have hbel' : Below w.heap.size w w1 := (hbel.alloc hsz _).grown hgr (by simp; omega) (own_ge hown)
        have hown'' : w1.ownsRow w.heap.size 33 6 v' (k + 1 + 1) (flat (rulF (mm sec) (zz d)) (k + 1 + 1)) := by rw [E3.out, hsec2]; exact hown'
        have r0 : w1.cell? ⟨wr.heap.size, 0, none⟩ = some (.bool false) := (hgr.cell_far ⟨wr.heap.size, 0, none⟩ (by simp) (fun e => by have := hown.lt _ e.symm; simp at this)).trans (by rw [World.cell?_alloc_at _ _ _ _ rfl]; rfl)
        have HO2 : Hid (w1.ownsRow w.heap.size 33 6 v' (k + 1 + 1) (flat (rulF (mm sec) (zz d)) (k + 1 + 1))) := hown''
        have HB2 : Hid (Below w.heap.size w w1) := hbel'
        clear hown hbel hgr hc hc' hx hown' hown'' hbel' r0
        go_wp2
        go_roundw
        case rel => exact ⟨k + 1, by omega, by go_num, HO2.out, by rw [E1.out, if_neg hsec], by rw [E2.out, if_neg hsec], HB2.out⟩
        case measure => simp [intOf]; omega
    · have HK : Hid (k = rl) := by show k = rl; omega
      obtain ⟨a8, c8, rfl, _⟩ := own_form hown
      rw [HK.out] at hown
      rw [HK.out]
      have HO8 : Hid (wr.ownsRow w.heap.size 33 6 (.slice a8 (rl + 1) c8) (rl + 1) (flat (rulF (mm sec) (zz d)) (rl + 1))) := hown
      have HBE : Hid (Below w.heap.size w wr) := hbel
      have hszr := hbel.size
      clear hown hbel hlt HO
      go_wp2_with fail
      rw [HN.out]
      refine (sessions_any n (by omega) _).mono ?_
      rintro e w1 ⟨v5, rfl, ho5, hb5⟩
      obtain ⟨a5, c5, rfl, _⟩ := own_form ho5
      have HB5 : Hid (Below w.heap.size w w1) := HBE.out.trans (hb5.mono hszr)
      have HO81 : Hid (w1.ownsRow w.heap.size 33 6 (.slice a8 (rl + 1) c8) (rl + 1) (flat (rulF (mm sec) (zz d)) (rl + 1))) := own_below' HO8.out hb5
      have HO5 : Hid (w1.ownsRow w.heap.size 94 5 (.slice a5 n c5) n (flat sessF n)) := own_mono ho5 hszr
      have hsz1 := HB5.out.size
      clear ho5 hb5 HBE HO8
      go_wp2_with fail
      refine (services_any sa sl sc w.heap.size fs h1 _ hsz1 (hs.below HB5.out (Nat.le_refl _))).mono ?_
      rintro e w2 ⟨v6, rfl, ho6, hb6⟩
      obtain ⟨a6, c6, rfl, _⟩ := own_form ho6
      have HB6 : Hid (Below w.heap.size w w2) := HB5.out.trans (hb6.mono hsz1)
      have HO82 : Hid (w2.ownsRow w.heap.size 33 6 (.slice a8 (rl + 1) c8) (rl + 1) (flat (rulF (mm sec) (zz d)) (rl + 1))) := own_below' HO81.out hb6
      have HO52 : Hid (w2.ownsRow w.heap.size 94 5 (.slice a5 n c5) n (flat sessF n)) := own_below' HO5.out hb6
      have hsz2 := HB6.out.size
      clear ho6 hb6 HB5 HO81 HO5
      go_wp2_with fail
      obtain ⟨st, hst⟩ : ∃ st : UEs, st = { ra := a8, rn := rl + 1, rc := c8, st := 4, reg := 2, pt := 0, sor := ⟨#[]⟩, rel := false, due := false, sa := a5, sn := n, sc := c5, va := a6, vn := sl, vc := c6, ta := none, tn := 0, tc := 0 } := ⟨_, rfl⟩
      refine (hold_wait w2.heap.size st (mm sec) (zz d) _ (by omega) (by rw [hst]; exact ⟨rfl, rfl, rfl⟩) (by rw [hst]) (by rw [hst]; show 0 < rl + 1; omega) (by rw [hst]; show rl + 1 ≤ 1025; omega) (by rw [hst]; show 0 < n; omega) (by rw [hst]; show n ≤ 1024; omega) ?_ ?_ ?_ ?_).mono ?_
      · rw [hst]; exact At.new _ _
      · rw [hst]; exact rws_new' (size := 6) (f := rulF (mm sec) (zz d)) (fun _ => rfl) HO82.out _
      · rw [hst]; exact rws_new' (size := 5) (f := sessF) (fun _ => rfl) HO52.out _
      · exact (hG.below HB6.out hl0).kept (World.grownBy_alloc w2 _ (some w2.heap.size)) (by omega)
      rintro e w3 ⟨v7, rfl, hg7, hp7⟩
      have HB7 : Hid (Below w.heap.size w w3) := below_new' HB6.out hsz2 hg7
      clear hg7 HB6 HO82 HO52
      have hrn : st.rn = rl + 1 := by rw [hst]
      rcases hp7 with ⟨hok, hv, ho7, gg, cc, hU7⟩ | ⟨hno, ho7, hU7⟩
      · rw [hrn] at hok hv ho7
        rw [hst] at hU7
        have c22 := hU7.c22
        have c15 := hU7.c15
        have c27 := hU7.c27
        have c29 := hU7.c29
        have lU := hU7.lt
        obtain ⟨g, cap, rfl, hgB, hgl⟩ := ho7.form (by omega)
        have q0 := ho7.cellAt 0 (by omega)
        obtain ⟨vv, hvv⟩ : ∃ vv, vv = hiV (zz d) (mm sec) (rl + 1) := ⟨_, rfl⟩
        rw [← hvv] at hv q0
        rw [← hvv, hok]
        have q0' : w3.cell? ⟨g, 0, none⟩ = some (.iface 87 (.agg #[.int .u8 0, .string ⟨#[]⟩, .bool true, .int .i64 vv, .string cmciB])) := q0
        unfold cmciB at q0'
        unfold sorB at c22
        have ha1 := as87
        obtain ⟨lUa, _⟩ := ltUp lU
        clear hst hrn hok ho7 hU7 q0 hvv hgB
        go_wp2
        go_ret
        exact ⟨rfl, HB7.out.alloc HB7.out.size _⟩
      · rw [hrn] at hno
        rw [hst] at hU7
        have c22 := hU7.c22
        have c15 := hU7.c15
        have c20 := hU7.c20
        have c27 := hU7.c27
        have c28 := hU7.c28
        have c29 := hU7.c29
        have lU := hU7.lt
        obtain ⟨g, cap, rfl, hgB, hgl⟩ := ho7.form (by omega)
        have q0 := ho7.cellAt 0 (by omega)
        have q0' : w3.cell? ⟨g, 0, none⟩ = some (.iface 90 (.agg #[.string cmciB])) := q0
        unfold cmciB at q0'
        unfold sorB at c22
        have ha1 := as90
        have hn1' := nil54
        have hn2' := nil56
        obtain ⟨lUa, _⟩ := ltUp lU
        clear hst hrn ho7 hU7 q0 hgB
        obtain ⟨vv, hvv⟩ : ∃ vv, vv = hiV (zz d) (mm sec) (rl + 1) := ⟨_, rfl⟩
        obtain ⟨oo, hoo⟩ : ∃ oo, oo = okV (mm sec) (rl + 1) := ⟨_, rfl⟩
        rw [← hvv, ← hoo] at hno
        rw [← hvv, ← hoo]
        clear hvv hoo
        by_cases ho : oo = true
        · rw [ho]
          have hv : ¬ 0 < vv := fun h => hno ⟨ho, h⟩
          clear hno ho
          go_wp2
          go_ret
          exact ⟨rfl, HB7.out.alloc HB7.out.size _⟩
        · have ho' : oo = false := by simpa using ho
          rw [ho']
          clear hno ho ho'
          go_wp2
          go_ret
          exact ⟨rfl, HB7.out.alloc HB7.out.size _⟩
end Go.Proofs.YbulkrqsDoor
