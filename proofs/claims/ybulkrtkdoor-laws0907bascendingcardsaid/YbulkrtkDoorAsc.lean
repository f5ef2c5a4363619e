/-
  Seat b0907aD. The clock of LawS0907BAscending (function 9), and the law (function 4).
-/
import Derived.Test.YbulkrtkDoorWait
namespace Go.Proofs.YbulkrtkDoor
open Go.RowKit

/-- A slice that came in, nil or not: its cells below B. -/
def In (w : World) (B : Nat) (a : Option Addr) (len : Nat) (f : Nat → Value) : Prop := ∀ k, k < len → ∃ b off, a = some ⟨b, off, none⟩ ∧ b < B ∧ w.cell? ⟨b, off + k, none⟩ = some (f k)
theorem In.below {w w' : World} {B B' : Nat} {a : Option Addr} {len : Nat} {f : Nat → Value} (h : In w B a len f) (hb : Below B' w w') (hB : B ≤ B') : In w' B a len f := fun k hk => by
  obtain ⟨b, off, e, hlt, hc⟩ := h k hk
  exact ⟨b, off, e, hlt, (hb.cell (by show b < B'; omega)).trans hc⟩

set_option maxRecDepth 100000 in
theorem run_index34 (a : Option Addr) (b off len cap k : Nat) (ha : a = some ⟨b, off, none⟩) (hk : k < len) (w : World) :
    (Instr.indexAt 34 (.slice a len cap) (.int .i64 (k : Int))).run Ybad.prog w = .ok (.pointer (some ⟨b, off + k, none⟩)) w := by
  subst ha
  have hs : (sizeOf (Ybad.prog.elem 34)).run Ybad.prog w = .ok 1 w := by kernel_rfl
  rw [run_indexAt_slice w 34 _ _ _ _ _ Ybad.underlying34, if_pos (by omega), hs]
  simp [Addr.add]

theorem Above.set {B : Nat} (w : World) (a : Addr) (v : Value) (h : a.block < B) : Above B w (w.setCell a v) :=
  ⟨by simp [World.setCell], fun b hb => heap_setCell_other _ _ _ _ (by omega)⟩

/-- What the k-th reading is. -/
def rdA (z : Nat → Int) (len k : Nat) : Int := if k < len then z k % 1048576 else 1048576 + ((k - len : Nat) + 1 : Int)

structure ClkA (B : Nat) (a : Option Addr) (len cap : Nat) (z : Nat → Int) (w : World) (k : Nat) : Prop where
  rds : At w B (.cells #[.slice a len cap] 34 (0, 0))
  pos : At w (B + 1) (.cells #[.int .i64 (min k len : Nat)] 3 (0, 0))
  ext : At w (B + 1 + 1) (.cells #[.int .i64 (k - len : Nat)] 2 (0, 0))
  row : In w B a len (fun i => .int .u32 (z i))

def cntA (B : Nat) (w : World) : Nat := (intOf ((w.cell? ⟨B + 1, 0, none⟩).getD undef)).toNat + (intOf ((w.cell? ⟨B + 1 + 1, 0, none⟩).getD undef)).toNat
theorem cntA_of {B : Nat} {a : Option Addr} {len cap : Nat} {z : Nat → Int} (w : World) (k : Nat) (h : ClkA B a len cap z w k) : cntA B w = k := by
  unfold cntA
  rw [h.pos.cell 0, h.ext.cell 0]
  simp [intOf]
  omega

set_option maxHeartbeats 1000000 in
set_option maxRecDepth 100000 in
theorem clock_asc (B : Nat) (a : Option Addr) (len cap : Nat) (z : Nat → Int) (hl : len ≤ 1024) (hz : ∀ i, i < len → 0 ≤ z i ∧ z i ≤ 4294967295) :
    Clock B (B + 3) 9 #[.pointer (some ⟨B + 1, 0, none⟩), .pointer (some ⟨B, 0, none⟩), .pointer (some ⟨B + 1 + 1, 0, none⟩)] (ClkA B a len cap z) (rdA z len) := by
  refine ⟨fun w => ?_, fun w k hk hI => ?_, fun w w' k hb hI => ⟨At.below hI.rds hb (by omega), At.below hI.pos hb (by omega), At.below hI.ext hb (by omega), hI.row.below hb (by omega)⟩, fun k hk => ?_⟩
  · exact enters_of Ybad.func9 (by kernel_rfl) rfl _ w
  · have HI := mkHid hI
    have d0 : w.cell? ⟨B, 0, none⟩ = some (.slice a len cap) := (hI.rds.cell 0).trans rfl
    have d1 : w.cell? ⟨B + 1, 0, none⟩ = some (.int .i64 (min k len : Nat)) := (hI.pos.cell 0).trans rfl
    have d2 : w.cell? ⟨B + 1 + 1, 0, none⟩ = some (.int .i64 (k - len : Nat)) := (hI.ext.cell 0).trans rfl
    have f1 := hI.pos.free 0
    have f2 := hI.ext.free 0
    by_cases hlt : k < len
    · rw [Nat.min_eq_left (by omega)] at d1
      obtain ⟨b, off, ha, hb, hc⟩ := hI.row k hlt
      have hx := run_index34 a b off len cap k ha hlt
      have hzz := hz k hlt
      have hlt' : (k : Int) < (len : Int) := by omega
      clear hI d2 f2 ha
      go_enter Ybad.func9, Ybad.ntmps9
      go_wp2
      go_ret
      have HB : Below B w (w.setCell ⟨B + 1, 0, none⟩ (.int .i64 ((k : Int) + 1))) := (Below.refl _ _).setCell (by simp <;> omega) _
      refine ⟨by simp [rdA, hlt], ⟨At.other HI.out.rds _ _ (by simp <;> omega), ?_, ?_, HI.out.row.below HB (Nat.le_refl _)⟩, HB, Above.set _ _ _ (by simp)⟩
      · have := At.set HI.out.pos 0 (.int .i64 ((k : Int) + 1))
        rw [Nat.min_eq_left (by omega)]
        exact this
      · have := At.other HI.out.ext ⟨B + 1, 0, none⟩ (.int .i64 ((k : Int) + 1)) (by simp)
        rwa [show k + 1 - len = k - len by omega]
    · rw [Nat.min_eq_right (by omega)] at d1
      clear hI
      go_enter Ybad.func9, Ybad.ntmps9
      go_wp2
      go_ret
      have HB : Below B w (w.setCell ⟨B + 1 + 1, 0, none⟩ (.int .i64 (((k - len : Nat) : Int) + 1))) := (Below.refl _ _).setCell (by simp <;> omega) _
      refine ⟨by simp [rdA, hlt], ⟨At.other HI.out.rds _ _ (by simp <;> omega), ?_, ?_, HI.out.row.below HB (Nat.le_refl _)⟩, HB, Above.set _ _ _ (by simp)⟩
      · have := At.other HI.out.pos ⟨B + 1 + 1, 0, none⟩ (.int .i64 (((k - len : Nat) : Int) + 1)) (by simp)
        rwa [Nat.min_eq_right (by omega)] at this ⊢
      · have := At.set HI.out.ext 0 (.int .i64 (((k - len : Nat) : Int) + 1))
        rw [show k + 1 - len = k - len + 1 by omega]
        exact this
  · unfold rdA
    split
    · omega
    · omega

theorem rdA_mono (z : Nat → Int) (len : Nat) (i j : Nat) (hj : len ≤ j) (hij : i < j) : rdA z len i < rdA z len j := by
  unfold rdA
  rw [if_neg (show ¬ j < len by omega)]
  split
  · omega
  · omega
theorem rdA_le (z : Nat → Int) (len : Nat) (i : Nat) : rdA z len i ≤ 1048576 + (i : Int) + 1 := by
  unfold rdA
  split <;> omega

theorem worker_any (F : Int) (w : World) (h0 : 0 ≤ F) (h1 : F ≤ 9223372036854775807) : Calls Ybad.prog 10 #[.int .i64 F] w fun e w' => e = .returned (.int .i64 (F / 4096 % 1024)) ∧ w' = w := by
  have ha := and_1023 (F / 4096) (by omega) (by omega)
  go_enter Ybad.func10, Ybad.ntmps10
  go_wp2
  go_ret
  exact ⟨by simp, rfl⟩

theorem law_long (a : Option Addr) (len cap : Nat) (x y z : Value) (w : World) (hl : 1024 < len) : Calls Ybad.prog 4 #[.slice a len cap, x, y, z] w fun e w' => e = .returned (.bool true) ∧ Below w.heap.size w w' := by
  have hl' : (1024 : Int) < (len : Int) := by omega
  go_enter Ybad.func4, Ybad.ntmps4
  go_wp2
  go_ret
  exact ⟨rfl, (Below.refl _ _).alloc (Nat.le_refl _) _⟩

/-- The world behind the three captured variables. -/
def w3A (w : World) (a : Option Addr) (len cap : Nat) : World := ((w.alloc (.cells #[.slice a len cap] 34)).alloc (.cells #[.int .i64 0] 3)).alloc (.cells #[.int .i64 0] 2)

set_option maxHeartbeats 2000000 in
set_option maxRecDepth 100000 in
theorem law_asc (a : Option Addr) (len cap : Nat) (z : Nat → Int) (us W k : Nat) (w : World) (hl : len ≤ 1024) (hus : us ≤ 4294967295) (hW : W ≤ 65535) (hk : k ≤ 255) (hz : ∀ i, i < len → 0 ≤ z i ∧ z i ≤ 4294967295) (hin : In w w.heap.size a len (fun i => .int .u32 (z i))) (hG : Glob w) :
    Calls Ybad.prog 4 #[.slice a len cap, .int .u32 us, .int .u16 W, .int .u8 k] w fun e w' => e = .returned (.bool true) ∧ Below w.heap.size w w' := by
  have HG := mkHid hG
  have HIN := mkHid hin
  have HZ := mkHid hz
  clear hG hin hz
  have hl' : ¬ (1024 : Int) < (len : Int) := by omega
  obtain ⟨u, hu⟩ : ∃ u : Int, (us : Int) % 1048576 = u := ⟨_, rfl⟩
  have hu0 : 0 ≤ u ∧ u < 1048576 := by omega
  obtain ⟨V, hV⟩ : ∃ V : Int, (W : Int) % 1024 = V := ⟨_, rfl⟩
  have hV0 : 0 ≤ V ∧ V < 1024 := by omega
  obtain ⟨n, hn⟩ : ∃ n : Nat, (k : Int) % 65 = (n : Int) := ⟨k % 65, by omega⟩
  have hn0 : n ≤ 64 := by omega
  go_enter Ybad.func4, Ybad.ntmps4
  go_wp2_with fail
  have hbA : Below w.heap.size w (w3A w a len cap) := (((Below.refl _ _).alloc (Nat.le_refl _) _).alloc (by simp) _).alloc (by simp; omega) _
  have HBA := mkHid hbA
  have HCA : Hid (ClkA w.heap.size a len cap z (w3A w a len cap) 0) := by
    refine ⟨?_, ?_, ?_, HIN.out.below hbA (Nat.le_refl _)⟩
    · exact At.alloc (At.alloc (At.new _ _) _) _
    · have := At.alloc (At.new (w.alloc (.cells #[.slice a len cap] 34)) (.cells #[.int .i64 0] 3)) (.cells #[.int .i64 0] 2)
      rw [World.size_alloc] at this
      rw [show min 0 len = 0 by omega]
      exact this
    · have := At.new ((w.alloc (.cells #[.slice a len cap] 34)).alloc (.cells #[.int .i64 0] 3)) (.cells #[.int .i64 0] 2)
      rw [World.size_alloc, World.size_alloc] at this
      rw [show 0 - len = 0 by omega]
      exact this
  have hsz : (w3A w a len cap).heap.size = w.heap.size + 3 := by simp [w3A]
  have HGA : Hid (Glob (w3A w a len cap)) := HG.out.below hbA HG.out.lt
  clear hbA
  refine (new_any 9 _ V u (w3A w a len cap) hV0 (by omega) HGA.out).mono ?_
  rintro e w1 ⟨G, rfl, hGs, hb1, hG1⟩
  rw [hsz] at hGs hb1
  have HCL := mkHid (clock_asc w.heap.size a len cap z hl HZ.out)
  have HR := mkHid (And.intro (HBA.out.trans (hb1.mono (by omega))) (And.intro (HCL.out.keep _ _ _ hb1 HCA.out) hG1))
  have hGs' : w.heap.size + 3 ≤ G := hGs
  clear hb1 hG1 hGs HBA HCA HGA HG HIN
  go_wp2
  go_loopw [16, 17] (fun pv i wr => ∃ (j m : Nat) (T q p : Int), j ≤ n ∧ i = .int .i64 j ∧ pv = .int .i64 p ∧ ((p = -1 ∧ T = u ∧ q = 4095) ∨ (p = idOf T V q ∧ u < T)) ∧ m ≤ len + 2 + j ∧ 0 ≤ T ∧ T ≤ 1048576 + 10000 ∧ 0 ≤ q ∧ q ≤ 4095 ∧ (∀ i, m ≤ i → len ≤ i → T < rdA z len i) ∧
    Below w.heap.size w wr ∧ ClkA w.heap.size a len cap z wr m ∧ GAt wr G (.func (.func 9) #[] #[.pointer (some ⟨w.heap.size + 1, 0, none⟩), .pointer (some ⟨w.heap.size, 0, none⟩), .pointer (some ⟨w.heap.size + 1 + 1, 0, none⟩)]) (V * 4096) (idOf T V q)) (fun _ i _ => n - (intOf i).toNat)
  case atStart =>
    refine ⟨0, 0, u, 4095, -1, Nat.zero_le _, rfl, rfl, .inl ⟨rfl, rfl, rfl⟩, by omega, hu0.1, by omega, by omega, by omega, fun i _ hi => ?_, HR.out.1, HR.out.2.1, HR.out.2.2⟩
    unfold rdA; rw [if_neg (by omega)]; omega
  case round =>
    obtain ⟨j, m, T, q, p, hj, rfl, rfl, hp, hm, hT0, hT1, hq0, hq1, hK, hb, hI, hGj⟩ := hrel
    have HP := mkHid hp
    have HK := mkHid hK
    have HB := mkHid hb
    have HI := mkHid hI
    have HGj := mkHid hGj
    clear hp hK hb hI hGj HR
    by_cases hlt : j < n
    · have hlt' : (j : Int) < (n : Int) := by omega
      go_wp2_with fail
      refine (next_any HCL.out cntA_of G T V q m len _ (by omega) (by omega) (by omega) hV0 (by omega) (by omega) hGs' HGj.out HI.out HK.out).mono ?_
      rintro e w2 ⟨T', q', m', rfl, hm1, hm2, hst, hI2, hb2, hG2⟩
      have hT' : T < T' ∧ q' = 0 ∨ T' = T ∧ q' = q + 1 ∧ q < 4095 := by
        rcases hst with ⟨h1, h2, _⟩ | h
        · exact .inl ⟨h1, h2⟩
        · exact .inr h
      have hTb : T' ≤ 1048576 + 10000 := by
        rcases hst with ⟨_, _, i, _, hi, rfl⟩ | ⟨rfl, _⟩
        · have := rdA_le z len i; omega
        · exact hT1
      have hKn : ∀ i, m' ≤ i → len ≤ i → T' < rdA z len i := by
        rcases hst with ⟨_, _, i0, _, hi, rfl⟩ | ⟨rfl, _⟩
        · exact fun i h1 h2 => rdA_mono z len i0 i h2 (by omega)
        · exact fun i h1 h2 => HK.out i (by omega) h2
      have hgt : p < idOf T' V q' ∧ u < T' := by
        unfold idOf
        rcases HP.out with ⟨rfl, rfl, rfl⟩ | ⟨rfl, h⟩
        · omega
        · unfold idOf; omega
      have hq' : 0 ≤ q' ∧ q' ≤ 4095 := by omega
      have hF : 0 ≤ idOf T' V q' ∧ idOf T' V q' ≤ 9223372036854775807 ∧ idOf T' V q' / 4194304 = T' ∧ idOf T' V q' / 4096 % 1024 = V := by unfold idOf; omega
      obtain ⟨F, hFF⟩ : ∃ F, idOf T' V q' = F := ⟨_, rfl⟩
      rw [hFF] at hF hgt hG2 ⊢
      obtain ⟨f0, f1, f2, f3⟩ := hF
      obtain ⟨g1, g2⟩ := hgt
      have HFF := mkHid hFF
      have H2 := mkHid (And.intro hI2 (And.intro (HB.out.trans hb2) hG2))
      have HKn := mkHid hKn
      have HF3 := mkHid f3
      clear hFF hI2 hb2 hG2 hKn hst hT' f3
      go_wp2_with fail
      refine (worker_any F _ f0 f1).mono ?_
      rintro e w3 ⟨rfl, hw⟩
      subst hw
      rw [HF3.out]
      go_wp2
      go_roundw
      case rel =>
        refine ⟨j + 1, m', T', q', F, by omega, by go_num, rfl, .inr ⟨HFF.out.symm, g2⟩, by omega, by omega, hTb, hq'.1, hq'.2, HKn.out, H2.out.2.1, H2.out.1, ?_⟩
        rw [HFF.out]; exact H2.out.2.2
      case measure => simp [intOf]; omega
    · obtain rfl : j = n := by omega
      go_wp2
      go_ret
      exact ⟨rfl, HB.out⟩
end Go.Proofs.YbulkrtkDoor
