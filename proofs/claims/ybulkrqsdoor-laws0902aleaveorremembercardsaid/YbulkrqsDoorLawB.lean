/-
  Seat b0902aD. THE WALK OF 'LawS0902ALeaveOrRemember' (function 3) WHERE THE UE LEAVES.
-/
import Derived.Test.YbulkrqsDoorLawA
namespace Go.Proofs.YbulkrqsDoor
open Go.RowKit

theorem own_below {w w' : World} {B e size n : Nat} {v : Value} {xs : List Value} (h : w.ownsRow B e size v n xs) (hb : Below w.heap.size w w') : w'.ownsRow B e size v n xs :=
  h.kept (gb_below hb none) (by cases v.ownBlock <;> simp)

theorem as68 (x y : ByteArray) (w : World) : (Instr.typeAssert (.iface 68 (.agg #[.string x, .string y])) 71 68 true).run Ybad.prog w = .ok (.tuple #[.agg #[.string x, .string y], .bool true]) w := by kernel_rfl
theorem as73 (a : Int) (b : ByteArray) (c : Bool) (d : ByteArray) (w : World) : (Instr.typeAssert (.iface 73 (.agg #[.int .u8 a, .string b, .bool c, .string d])) 71 73 true).run Ybad.prog w = .ok (.tuple #[.agg #[.int .u8 a, .string b, .bool c, .string d], .bool true]) w := by kernel_rfl
theorem as77 (x : ByteArray) (w : World) : (Instr.typeAssert (.iface 77 (.agg #[.pointer none, .string x])) 71 77 true).run Ybad.prog w = .ok (.tuple #[.agg #[.pointer none, .string x], .bool true]) w := by kernel_rfl
theorem as80 (p : Int) (w : World) : (Instr.typeAssert (.iface 80 (.agg #[.int .i64 p])) 71 80 true).run Ybad.prog w = .ok (.tuple #[.agg #[.int .i64 p], .bool true]) w := by kernel_rfl

theorem run_index64 (g L c k : Nat) (h : 1 + k < L) (w : World) : (Instr.indexAt 64 (.slice (some ⟨g, 0, none⟩) L c) (.int .i64 (1 + (k : Int)))).run Ybad.prog w = .ok (.pointer (some ⟨g, 1 + k, none⟩)) w := by
  have := run_indexS 64 1 (by kernel_rfl) (fun _ => by kernel_rfl) (some ⟨g, 0, none⟩) g L c (1 + k) rfl h w
  rw [show ((1 + k : Nat) : Int) = 1 + (k : Int) by omega] at this
  simpa using this

theorem run_index642 (g L c k : Nat) (h : 2 + k < L) (w : World) : (Instr.indexAt 64 (.slice (some ⟨g, 0, none⟩) L c) (.int .i64 (2 + (k : Int)))).run Ybad.prog w = .ok (.pointer (some ⟨g, 2 + k, none⟩)) w := by
  have := run_indexS 64 1 (by kernel_rfl) (fun _ => by kernel_rfl) (some ⟨g, 0, none⟩) g L c (2 + k) rfl h w
  rw [show ((2 + k : Nat) : Int) = 2 + (k : Int) by omega] at this
  simpa using this

/-- Rows that lie below a block that is laid now. -/
theorem rws_new {w : World} {B e size n : Nat} {a : Option Addr} {c : Nat} {f : Nat → List Value} (hf : ∀ j, (f j).length = size) (h : w.ownsRow B e size (.slice a n c) n (flat f n)) (o : Obj) : Rws (w.alloc o) w.heap.size a n size f := fun j hj => by
  rcases h.2 with ⟨hv, h0⟩ | ⟨g, cap, cur, hv, hb, hg, _⟩
  · omega
  · obtain ⟨rfl, _, rfl⟩ : a = some ⟨g, 0, none⟩ ∧ n = n ∧ c = cap := by simpa using hv
    have hgl := lt_of_block hg
    refine ⟨g, rfl, by omega, by simp; omega, fun i v hiv => ?_⟩
    have hi : i < size := by have := (List.getElem?_eq_some_iff.1 hiv).1; rw [hf] at this; exact this
    have hlt : j * size + i < n * size := by
      have : (j + 1) * size ≤ n * size := Nat.mul_le_mul_right _ (by omega)
      rw [Nat.succ_mul] at this; omega
    rw [World.cell?_alloc_past _ _ _ hgl, h.cellAt (j * size + i) hlt, flat_get hf n j i hj hi, hiv]

/-- What the actions of 'leave' are, place by place. -/
theorem acts_at {w : World} {B tl : Nat} {g c : Nat} {cl : ByteArray} {pt : Int} {f : Nat → Int}
    (h : w.ownsRow B 71 1 (.slice (some ⟨g, 0, none⟩) (1 + tl + searchN pt) c) (1 + tl + searchN pt) ([relV cl] ++ flat (stopF f cmciB) tl ++ searchL cl pt)) :
    w.cell? ⟨g, 0, none⟩ = some (relV cl) ∧ (∀ j, j < tl → w.cell? ⟨g, 1 + j, none⟩ = some (.iface 73 (.agg #[.int .u8 (f j), .string ⟨#[]⟩, .bool false, .string cmciB]))) ∧
    w.cell? ⟨g, 1 + tl, none⟩ = some (searchV cl) ∧ (0 < pt → w.cell? ⟨g, 2 + tl, none⟩ = some (timerV pt)) := by
  have hlen : (flat (stopF f cmciB) tl).length = tl := by have := flat_length (f := stopF f cmciB) (size := 1) (fun _ => rfl) tl; omega
  have hS : 1 ≤ searchN pt := by unfold searchN; split <;> omega
  have hat : ∀ i, i < 1 + tl + searchN pt → w.cell? ⟨g, i, none⟩ = ([relV cl] ++ flat (stopF f cmciB) tl ++ searchL cl pt)[i]? := fun i hi => h.cellAt i (by omega)
  have h0 : (searchL cl pt)[0]? = some (searchV cl) := by unfold searchL; split <;> rfl
  refine ⟨?_, fun j hj => ?_, ?_, fun hp => ?_⟩
  · rw [hat 0 (by omega)]; rfl
  · rw [hat (1 + j) (by omega), List.append_assoc, List.getElem?_append_right (by simp), List.getElem?_append_left (by simp [hlen]; omega)]
    have := flat_get (f := stopF f cmciB) (size := 1) (fun _ => rfl) tl j 0 hj (by omega)
    rw [show j * 1 + 0 = j by omega] at this
    rw [show 1 + j - [relV cl].length = j by simp, this]; rfl
  · rw [hat (1 + tl) (by omega), List.getElem?_append_right (by simp [hlen]; omega)]
    rw [show 1 + tl - ([relV cl] ++ flat (stopF f cmciB) tl).length = 0 by simp [hlen]; omega, h0]
  · have h2 : searchN pt = 2 := by unfold searchN; rw [if_pos hp]
    rw [hat (2 + tl) (by omega), List.getElem?_append_right (by simp [hlen]; omega)]
    rw [show 2 + tl - ([relV cl] ++ flat (stopF f cmciB) tl).length = 1 by simp [hlen]; omega]
    unfold searchL; rw [if_pos hp]; rfl

set_option maxHeartbeats 4000000 in
set_option maxRecDepth 100000 in
theorem lawA_leave1 (nS : Nat) (sa ra ta : Option Addr) (sc rl rc tl tc : Nat) (pt : Int) (fd : Nat → Int) (ft : Nat → Int) (w : World) (hS : nS ≤ 255) (hn0 : (nS : Int) % 4 = 0) (h2 : rl ≤ 1024) (h3 : tl ≤ 1024) (hr : 0 < rl)
    (hd : In w w.heap.size ra rl (fun k => .int .i64 (fd k))) (ht : In w w.heap.size ta tl (fun k => .int .u8 (ft k))) :
    Calls Ybad.prog 3 #[.int .u8 nS, .slice sa 0 sc, .slice ra rl rc, .int .i64 pt, .slice ta tl tc] w fun e w' => e = .returned (.bool true) ∧ Below w.heap.size w w' := by
  have g2 : decide ((1024 : Int) < (rl : Int)) = false := by simp; omega
  have g3 : decide ((1024 : Int) < (tl : Int)) = false := by simp; omega
  have gr : (0 : Int) < (rl : Int) := by omega
  have gr2 : ((rl : Int) == 0) = false := by simp; omega
  have hb2 : ¬ (0 : Int) < (nS : Int) % 4 := by omega
  have HN : Hid ((nS : Int) % 4 = ((0 : Nat) : Int)) := hn0
  clear hn0
  go_enter Ybad.func3, Ybad.ntmps3
  go_wp2_with fail
  go_loopw [13, 62] (fun v i wr => ∃ k : Nat, k ≤ rl ∧ i = .int .i64 k ∧ wr.ownsRow w.heap.size 33 6 v k (flat (ruleF fd) k) ∧ Below w.heap.size w wr) (fun _ i _ => rl - (intOf i).toNat)
  case atStart => exact ⟨0, Nat.zero_le _, rfl, World.ownsRow_nil _ _ _ _, Below.refl _ _⟩
  case round =>
    obtain ⟨k, hk, rfl, hown, hbel⟩ := hrel
    by_cases hlt : k < rl
    · have hi2 : (k : Int) < (rl : Int) := by omega
      obtain ⟨b, off, ha, hb, hc⟩ := (hd.below hbel (Nat.le_refl _)) k hlt
      have hx := run_index23 ra b off rl rc k ha hlt
      clear ha
      go_wp2_with (at_builtin; refine wpList_append1 rfl (.tmp 66) (.tmp 69) 25 rfl w.heap.size 33 _ 6 64 Ybad.underlying25 Ybad.info33 rfl (by decide) (by decide) wr wr.heap.size rfl _ k (flat (ruleF fd) k) [.string ⟨#[109, 97, 116, 99, 104, 95, 97, 108, 108]⟩, .string ⟨#[]⟩, .int .u8 0, .int .u32 0, .string ⟨#[]⟩, .int .i64 (fd k)] hown rfl rfl rfl (by simp [Value.oneCell']) (by omega) hbel.size ?_)
      intro v' w1 hown' hgr
      have hbel' : Below w.heap.size w w1 := hbel.grown hgr hbel.size (own_ge hown)
      clear hown hbel hgr hc hx
      go_wp2
      go_roundw
      case rel => exact ⟨k + 1, by omega, by go_num, hown', hbel'⟩
      case measure => simp [intOf]; omega
    · have HK : Hid (k = rl) := by show k = rl; omega
      obtain ⟨a13, c13, rfl, _⟩ := own_form hown
      rw [HK.out]
      have HB1 : Hid (Below w.heap.size w wr) := hbel
      have hsz0 := hbel.size
      obtain ⟨wq, hwq⟩ : ∃ wq : World, wq = wr := ⟨_, rfl⟩
      rw [← hwq] at HB1 hsz0
      have HQ : Hid (wq = wr) := hwq
      clear hown hbel hlt hwq
      go_wp2_with fail
      rw [← HQ.out]
      clear HQ
      go_loopw [16, 74] (fun v i wx => ∃ k : Nat, k ≤ tl ∧ i = .int .i64 k ∧ wx.ownsRow w.heap.size 42 7 v k (flat (timF ft) k) ∧ Below w.heap.size w wx) (fun _ i _ => tl - (intOf i).toNat)
      case atStart => exact ⟨0, Nat.zero_le _, rfl, World.ownsRow_nil _ _ _ _, HB1.out⟩
      case round =>
        obtain ⟨k2, hk2, rfl, hown, hbel⟩ := hrel
        by_cases hlt : k2 < tl
        · have hi2 : (k2 : Int) < (tl : Int) := by omega
          obtain ⟨b, off, ha, hb, hc⟩ := (ht.below hbel (Nat.le_refl _)) k2 hlt
          have hx := run_index24 ta b off tl tc k2 ha hlt
          clear ha
          go_wp2_with (at_builtin; refine wpList_append1 rfl (.tmp 78) (.tmp 82) 34 rfl w.heap.size 42 _ 7 64 Ybad.underlying34 Ybad.info42 rfl (by decide) (by decide) wr wr.heap.size rfl _ k2 (flat (timF ft) k2) [.int .u8 (ft k2), .string ⟨#[]⟩, .bool false, .int .u64 0, .int .i64 0, .pointer none, .int .i64 1] hown rfl rfl rfl (by simp [Value.oneCell']) (by omega) hbel.size ?_)
          intro v' w1 hown' hgr
          have hbel' : Below w.heap.size w w1 := hbel.grown hgr hbel.size (own_ge hown)
          clear hown hbel hgr hc hx
          go_wp2
          go_roundw
          case rel => exact ⟨k2 + 1, by omega, by go_num, hown', hbel'⟩
          case measure => simp [intOf]; omega
        · have HK2 : Hid (k2 = tl) := by show k2 = tl; omega
          obtain ⟨a16, c16, rfl, _⟩ := own_form hown
          rw [HK2.out] at hown
          rw [HK2.out]
          have HO16 : Hid (wr.ownsRow w.heap.size 42 7 (.slice a16 tl c16) tl (flat (timF ft) tl)) := hown
          have HBE : Hid (Below w.heap.size w wr) := hbel
          have hszr := hbel.size
          clear hown hbel hlt
          go_wp2_with fail
          rw [HN.out]
          refine (sessions_any 0 (by omega) _).mono ?_
          rintro e w1 ⟨v5, rfl, ho5, hb5⟩
          obtain ⟨a5, c5, rfl, _⟩ := own_form ho5
          have HB5 : Hid (Below w.heap.size w w1) := HBE.out.trans (hb5.mono hszr)
          have HO17 : Hid (w1.ownsRow w.heap.size 42 7 (.slice a16 tl c16) tl (flat (timF ft) tl)) := own_below HO16.out hb5
          have hsz1 := HB5.out.size
          clear ho5 hb5 HBE HO16
          go_wp2_with fail
          refine (services_any sa 0 sc w.heap.size (fun _ => ⟨#[]⟩) (by omega) _ hsz1 (fun j hj => by omega)).mono ?_
          rintro e w2 ⟨v6, rfl, ho6, hb6⟩
          obtain ⟨a6, c6, rfl, _⟩ := own_form ho6
          have HB6 : Hid (Below w.heap.size w w2) := HB5.out.trans (hb6.mono hsz1)
          have HO18 : Hid (w2.ownsRow w.heap.size 42 7 (.slice a16 tl c16) tl (flat (timF ft) tl)) := own_below HO17.out hb6
          have hsz2 := HB6.out.size
          clear ho6 hb6 HB5 HO17
          go_wp2_with fail
          obtain ⟨st, hst⟩ : ∃ st : UEs, st = { ra := a13, rn := rl, rc := c13, st := 4, reg := 2, pt := pt, sor := ⟨#[]⟩, rel := false, due := false, sa := a5, sn := 0, sc := c5, va := a6, vn := 0, vc := c6, ta := a16, tn := tl, tc := c16 } := ⟨_, rfl⟩
          refine (hold_leave1 w2.heap.size st ft _ (by rw [hst]; exact hr) (by rw [hst]; exact ⟨rfl, rfl⟩) (by rw [hst]; exact h3) ?_ ?_).mono ?_
          · rw [hst]; exact At.new _ _
          · rw [hst]; exact rws_new (size := 7) (f := timF ft) (fun _ => rfl) HO18.out _
          rintro e w3 ⟨v7, rfl, ho7, hg7, hU7⟩
          have HB7 : Hid (Below w.heap.size w w3) := below_new HB6.out hsz2 hg7
          rw [hst] at ho7 hU7
          clear hst hg7 HB6 HO18
          have c22 := hU7.c22
          have c15 := hU7.c15
          have c29 := hU7.c29
          have hU7l := hU7.lt
          clear hU7
          have hS : 1 ≤ searchN pt := by unfold searchN; split <;> omega
          obtain ⟨a7, c7, rfl, hform⟩ := own_form ho7
          obtain ⟨g, rfl, hgB, hgl⟩ : ∃ g, a7 = some ⟨g, 0, none⟩ ∧ w2.heap.size + 1 ≤ g ∧ g < w3.heap.size := by
            rcases hform with h0 | ⟨g, h1, h2, h4⟩
            · omega
            · exact ⟨g, h1, by simpa using h2, h4⟩
          obtain ⟨q0, q1, q2, q3⟩ := acts_at ho7
          have HQ1 : Hid (∀ j, j < tl → w3.cell? ⟨g, 1 + j, none⟩ = some (.iface 73 (.agg #[.int .u8 (ft j), .string ⟨#[]⟩, .bool false, .string cmciB]))) := q1
          clear q1 ho7 hform hgB
          unfold relV sorB at q0
          unfold searchV sorB at q2
          unfold timerV at q3
          obtain ⟨L, hL⟩ : ∃ L, L = 1 + tl + searchN pt := ⟨_, rfl⟩
          rw [← hL]
          by_cases hp : 0 < pt
          · have hN : searchN pt = 2 := by unfold searchN; rw [if_pos hp]
            have hL1 : (L : Int) ≤ 2 + (tl : Int) + 1 := by omega
            have hL2 : 2 + (tl : Int) + 1 ≤ (L : Int) := by omega
            have hp3 := q3 hp
            clear hL hN hS q3
            have hL0 : (0 : Int) < (L : Int) := by omega
            have hLb : ((L : Int) != 2 + (tl : Int) + 1) = false := by simp; omega
            have ha1 := as68
            have ha2 := as73
            have ha3 := as77
            have ha4 := as80
            go_wp2
            go_loopw [194] (fun i wx => ∃ k : Nat, k ≤ tl ∧ i = .int .i64 k ∧ Below w3.heap.size w3 wx) (fun i _ => tl - (intOf i).toNat)
            case atStart => exact ⟨0, Nat.zero_le _, rfl, (Below.refl _ _).alloc (Nat.le_refl _) _⟩
            case round =>
              obtain ⟨k3, hk3, rfl, hbel⟩ := hrel
              by_cases hlt : k3 < tl
              · have hi2 : (k3 : Int) < (tl : Int) := by omega
                obtain ⟨b, off, ha, hb, hc⟩ := ((ht.below HB7.out (Nat.le_refl _)).below hbel HB7.out.size) k3 hlt
                have hx := run_index24 ta b off tl tc k3 ha hlt
                have hc1 := (hbel.cell (p := ⟨g, 1 + k3, none⟩) hgl).trans (HQ1.out k3 hlt)
                have hx1 := run_index64 g L c7 k3 (by omega)
                have HBL : Hid (Below w3.heap.size w3 wr) := hbel
                have hlb := block_lt_of_cell hc
                have hlg := block_lt_of_cell hc1
                have hsw := hbel.size
                clear ha hbel
                unfold cmciB at hc1
                go_wp2
                go_roundw
                case rel => exact ⟨k3 + 1, by omega, by go_num, HBL.out.alloc hsw _⟩
                case measure => simp [intOf]; omega
              · have HK3 : Hid (k3 = tl) := by show k3 = tl; omega
                have e2 := (hbel.cell (p := ⟨g, 1 + tl, none⟩) hgl).trans q2
                have e3 := (hbel.cell (p := ⟨g, 2 + tl, none⟩) hgl).trans hp3
                have hx1 := run_index64 g L c7 tl (by omega)
                have hx2 := run_index642 g L c7 tl (by omega)
                have HBL : Hid (Below w3.heap.size w3 wr) := hbel
                have hlg := block_lt_of_cell e2
                obtain ⟨hlga, _⟩ := ltUp hlg
                have hsw := hbel.size
                clear hbel q0 q2 hp3 c22 c15 c29
                go_wp2
                go_ret
                exact ⟨rfl, HB7.out.trans (((HBL.out.alloc hsw _).alloc (by simp; omega) _).mono HB7.out.size)⟩
          · have hN : searchN pt = 1 := by unfold searchN; rw [if_neg hp]
            have hL1 : (L : Int) ≤ 2 + (tl : Int) := by omega
            have hL2 : 2 + (tl : Int) ≤ (L : Int) := by omega
            clear hL hN hS q3
            have hL0 : (0 : Int) < (L : Int) := by omega
            have hLb : ((L : Int) != 2 + (tl : Int)) = false := by simp; omega
            have ha1 := as68
            have ha2 := as73
            have ha3 := as77
            have ha4 := as80
            go_wp2
            go_loopw [194] (fun i wx => ∃ k : Nat, k ≤ tl ∧ i = .int .i64 k ∧ Below w3.heap.size w3 wx) (fun i _ => tl - (intOf i).toNat)
            case atStart => exact ⟨0, Nat.zero_le _, rfl, (Below.refl _ _).alloc (Nat.le_refl _) _⟩
            case round =>
              obtain ⟨k3, hk3, rfl, hbel⟩ := hrel
              by_cases hlt : k3 < tl
              · have hi2 : (k3 : Int) < (tl : Int) := by omega
                obtain ⟨b, off, ha, hb, hc⟩ := ((ht.below HB7.out (Nat.le_refl _)).below hbel HB7.out.size) k3 hlt
                have hx := run_index24 ta b off tl tc k3 ha hlt
                have hc1 := (hbel.cell (p := ⟨g, 1 + k3, none⟩) hgl).trans (HQ1.out k3 hlt)
                have hx1 := run_index64 g L c7 k3 (by omega)
                have HBL : Hid (Below w3.heap.size w3 wr) := hbel
                have hlb := block_lt_of_cell hc
                have hlg := block_lt_of_cell hc1
                have hsw := hbel.size
                clear ha hbel
                unfold cmciB at hc1
                go_wp2
                go_roundw
                case rel => exact ⟨k3 + 1, by omega, by go_num, HBL.out.alloc hsw _⟩
                case measure => simp [intOf]; omega
              · have HK3 : Hid (k3 = tl) := by show k3 = tl; omega
                have e2 := (hbel.cell (p := ⟨g, 1 + tl, none⟩) hgl).trans q2
                have hx1 := run_index64 g L c7 tl (by omega)
                have HBL : Hid (Below w3.heap.size w3 wr) := hbel
                have hlg := block_lt_of_cell e2
                obtain ⟨hlga, _⟩ := ltUp hlg
                have hsw := hbel.size
                clear hbel q0 q2 c22 c15 c29
                go_wp2
                go_ret
                exact ⟨rfl, HB7.out.trans ((HBL.out.alloc hsw _).mono HB7.out.size)⟩
end Go.Proofs.YbulkrqsDoor
