/-
  Seat b0902a. THE WALK OF 'LawS0902BHighest' (function 3).
-/
import Derived.Test.YbulkrqsHigh
import Derived.Deep.MidRow
namespace Go.Proofs.Ybulkrqs
open Go.RowKit

theorem Yba.info32 : (Yba.prog.info? 32).map (fun i => (i.zero, i.size, i.bytes)) = some (some (.agg #[.string ByteArray.empty, .string ByteArray.empty, .int .u8 0, .int .u32 0, .string ByteArray.empty, .int .i64 0]), 6, 64) := by kernel_rfl
theorem Yba.size32 : (Yba.prog.info? 32).map (·.size) = some 6 := by kernel_rfl

def made (n : Nat) : Array Value := madeCells #[.string ByteArray.empty, .string ByteArray.empty, .int .u8 0, .int .u32 0, .string ByteArray.empty, .int .i64 0] (n * 6)
theorem made_size (n : Nat) : (made n).size = n * 6 := by unfold made; exact size_madeCells _ _

theorem run_made (n : Nat) (hn : n ≤ 1024) (w : World) : (Instr.makeSlice 24 (.int .i64 (n : Int)) (.int .i64 (n : Int))).run Yba.prog w = .ok (.slice (some ⟨w.heap.size, 0, none⟩) n n) (w.alloc (.cells (made n) 32)) := by
  obtain ⟨i, hi, hz, hs, hb⟩ := info_parts Yba.info32
  have hr := run_make (P := Yba.prog) w 24 32 i _ Yba.underlying24 hi hz .i64 .i64 n n (by omega) (Int.le_refl _) (by rw [hb]; omega) (by omega)
  rw [hs] at hr
  simpa [made, Value.cells] using hr

theorem there_alloc (w : World) (C : Array Value) (t : TypeId) (n : Nat) (h : n ≤ C.size) : (w.alloc (.cells C t)).there w.heap.size 0 n := fun j hj => by
  rw [World.cell?_alloc_at _ _ _ _ rfl, World.frozen?_alloc_at _ _ _ _ rfl]
  simp; omega

theorem size_setCells (b : Nat) : ∀ (vs : List Value) (o : Nat) (w : World), (w.setCells b o vs).heap.size = w.heap.size
  | [], _, _ => rfl
  | v :: r, o, w => by rw [World.setCells, size_setCells b r (o + 1)]; simp [World.setCell]
theorem below_setCells {B : Nat} {a : World} (b : Nat) (hb : B ≤ b) : ∀ (vs : List Value) (o : Nat) (w : World), Below B a w → Below B a (w.setCells b o vs)
  | [], _, _, h => h
  | v :: r, o, w, h => by rw [World.setCells]; exact below_setCells b hb r (o + 1) _ (h.setCell hb v)

/-- What loop 1 has made after k rounds. -/
def Rel1 (w2 : World) (R len : Nat) (z : Nat → Int) (k : Nat) (wr : World) : Prop :=
  wr.there R 0 (len * 6) ∧ (∀ j, j < k → RuleAt wr R z j) ∧ Below R w2 wr ∧ R < wr.heap.size

theorem there_at {w : World} {R len k : Nat} (h : w.there R 0 (len * 6)) (hk : k < len) : w.there R (k * 6) 6 := fun j hj => by
  have := h (k * 6 + j) (by omega)
  simpa using this

theorem rel1_step {w2 wr : World} {R len k : Nat} {z : Nat → Int} (h : Rel1 w2 R len z k wr) (hk : k < len) :
    Rel1 w2 R len z (k + 1) (wr.setCells R (k * 6) [.string ⟨#[]⟩, .string ⟨#[]⟩, .int .u8 0, .int .u32 k, .string ⟨#[]⟩, .int .i64 (z k)]) := by
  obtain ⟨hth, hru, hbel, hsz⟩ := h
  refine ⟨World.there_setCells hth _ _ _, fun j hj => ?_, below_setCells R (Nat.le_refl _) _ _ _ hbel, by rw [size_setCells]; exact hsz⟩
  have ht := there_at hth hk
  by_cases e : j = k
  · subst e
    have hin := World.cell?_setCells_in R [.string ⟨#[]⟩, .string ⟨#[]⟩, .int .u8 0, .int .u32 j, .string ⟨#[]⟩, .int .i64 (z j)] (j * 6) wr (fun i hi => (ht i (by simpa using hi)).1)
    exact ⟨hin 0 (by simp), hin 1 (by simp), hin 2 (by simp), hin 3 (by simp), hin 4 (by simp), hin 5 (by simp)⟩
  · obtain ⟨h0, h1, h2, h3, h4, h5⟩ := hru j (by omega)
    have hout : ∀ i, i < 6 → (wr.setCells R (k * 6) [.string ⟨#[]⟩, .string ⟨#[]⟩, .int .u8 0, .int .u32 k, .string ⟨#[]⟩, .int .i64 (z k)]).cell? ⟨R, j * 6 + i, none⟩ = wr.cell? ⟨R, j * 6 + i, none⟩ := fun i hi =>
      World.cell?_setCells_out R _ _ wr _ (fun _ _ => by simp; omega)
    exact ⟨(hout 0 (by omega)).trans h0, (hout 1 (by omega)).trans h1, (hout 2 (by omega)).trans h2, (hout 3 (by omega)).trans h3, (hout 4 (by omega)).trans h4, (hout 5 (by omega)).trans h5⟩

theorem run_index (t : TypeId) (ht : Yba.prog.underlying t = some (.slice (Yba.prog.elem t))) (hs : ∀ w, (sizeOf (Yba.prog.elem t)).run Yba.prog w = .ok 1 w) (a : Option Addr) (b off len cap k : Nat) (ha : a = some ⟨b, off, none⟩) (hk : k < len) (w : World) :
    (Instr.indexAt t (.slice a len cap) (.int .i64 (k : Int))).run Yba.prog w = .ok (.pointer (some ⟨b, off + k, none⟩)) w := by
  subst ha
  rw [run_indexAt_slice w t _ _ _ _ _ ht, if_pos (by omega), hs]
  simp [Addr.add]
theorem run_index22 (a : Option Addr) (b off len cap k : Nat) (ha : a = some ⟨b, off, none⟩) (hk : k < len) (w : World) :
    (Instr.indexAt 22 (.slice a len cap) (.int .i64 (k : Int))).run Yba.prog w = .ok (.pointer (some ⟨b, off + k, none⟩)) w := run_index 22 (by kernel_rfl) (fun _ => by kernel_rfl) a b off len cap k ha hk w
theorem run_index23 (a : Option Addr) (b off len cap k : Nat) (ha : a = some ⟨b, off, none⟩) (hk : k < len) (w : World) :
    (Instr.indexAt 23 (.slice a len cap) (.int .i64 (k : Int))).run Yba.prog w = .ok (.pointer (some ⟨b, off + k, none⟩)) w := run_index 23 (by kernel_rfl) (fun _ => by kernel_rfl) a b off len cap k ha hk w

theorem grown3 (w : World) (o1 o2 o3 : Obj) (r : Option Nat) : w.grownBy (((w.alloc o1).alloc o2).alloc o3) r :=
  grownBy_trans (grownBy_trans (World.grownBy_alloc _ _ _) (World.grownBy_alloc _ _ _)) (World.grownBy_alloc _ _ _)
theorem heap3_1 (w : World) (o1 o2 o3 : Obj) : (((w.alloc o1).alloc o2).alloc o3).heap[w.heap.size + 1]? = some o2 := by
  rw [Below.heap_alloc _ _ _ (by simp)]; exact heap_alloc2_new w o1 o2
theorem cell3_0 (w : World) (C : Array Value) (t : TypeId) (o2 o3 : Obj) (i : Nat) : (((w.alloc (.cells C t)).alloc o2).alloc o3).cell? ⟨w.heap.size, i, none⟩ = C[i]? := by
  rw [World.cell?_alloc_past _ _ _ (by simp; omega), World.cell?_alloc_past _ _ _ (by simp), World.cell?_alloc_at _ _ _ _ rfl]
theorem cell3_2 (w : World) (o1 o2 : Obj) (v : Value) (t : TypeId) : (((w.alloc o1).alloc o2).alloc (.cells #[v] t)).cell? ⟨w.heap.size + 1 + 1, 0, none⟩ = some v := by
  rw [World.cell?_alloc_at _ _ _ _ (by simp)]; rfl

set_option maxHeartbeats 1000000 in
set_option maxRecDepth 100000 in
theorem walk_in (da ma : Option Addr) (len cap ml mc : Nat) (z : Nat → Int) (m : Nat → Bool) (w : World)
    (hl : len ≤ 1024) (hml : ml ≤ 1024)
    (hD : ∀ k, k < len → ∃ b off, da = some ⟨b, off, none⟩ ∧ b < w.heap.size ∧ w.cell? ⟨b, off + k, none⟩ = some (.int .i64 (z k)))
    (hM : (ml = 0 ∧ ∀ k, m k = false) ∨ (0 < ml ∧ ∃ mb mo, ma = some ⟨mb, mo, none⟩ ∧ mb < w.heap.size ∧ ∀ k, w.cell? ⟨mb, mo + k % ml, none⟩ = some (.bool (m k)))) :
    Calls Yba.prog 3 #[.slice da len cap, .slice ma ml mc] w fun e w' => e = .returned (.bool true) ∧ Below w.heap.size w w' := by
  have hmk := run_made len hl
  have hl' : (len : Int) ≤ 1024 := by omega
  have hml' : (ml : Int) ≤ 1024 := by omega
  have hg1 : decide ((1024 : Int) < (len : Int)) = false := by simp; omega
  have hg2 : decide ((1024 : Int) < (ml : Int)) = false := by simp; omega
  have HD : Hid (∀ k, k < len → ∃ b off, da = some ⟨b, off, none⟩ ∧ b < w.heap.size ∧ w.cell? ⟨b, off + k, none⟩ = some (.int .i64 (z k))) := hD
  have HM : Hid ((ml = 0 ∧ ∀ k, m k = false) ∨ (0 < ml ∧ ∃ mb mo, ma = some ⟨mb, mo, none⟩ ∧ mb < w.heap.size ∧ ∀ k, w.cell? ⟨mb, mo + k % ml, none⟩ = some (.bool (m k)))) := hM
  clear hD hM
  obtain ⟨w2, hw2⟩ : ∃ w2 : World, w2 = ((w.alloc (.cells #[.slice da len cap] 22)).alloc (.cells #[.slice ma ml mc] 23)) := ⟨_, rfl⟩
  have b2 : Below w.heap.size w w2 := by rw [hw2]; exact ((Below.refl _ _).alloc (Nat.le_refl _) _).alloc (by simp) _
  have d2 : w2.cell? ⟨w.heap.size, 0, none⟩ = some (.slice da len cap) := by
    rw [hw2, World.cell?_alloc_past _ _ _ (by simp), World.cell?_alloc_at _ _ _ _ rfl]; rfl
  have m2 : w2.cell? ⟨w.heap.size + 1, 0, none⟩ = some (.slice ma ml mc) := by
    rw [hw2, World.cell?_alloc_at _ _ _ _ (by simp)]; rfl
  have s2 : w2.heap.size = w.heap.size + 1 + 1 := by rw [hw2]; simp
  have r0 : Rel1 w2 (w.heap.size + 1 + 1) len z 0 (w2.alloc (.cells (made len) 32)) := by
    refine ⟨?_, fun j hj => by omega, ?_, by simp [s2]⟩
    · have := there_alloc w2 (made len) 32 (len * 6) (by rw [made_size]; exact Nat.le_refl _)
      rwa [s2] at this
    · exact (Below.refl _ _).alloc (by omega) _
  have R0 : Hid (Rel1 w2 (w.heap.size + 1 + 1) len z 0 (w2.alloc (.cells (made len) 32))) := r0
  have B2 : Hid (Below w.heap.size w w2) := b2
  have S2 : Hid (w2.heap.size = w.heap.size + 1 + 1) := s2
  have D2 : Hid (w2.cell? ⟨w.heap.size, 0, none⟩ = some (.slice da len cap)) := d2
  have M2 : Hid (w2.cell? ⟨w.heap.size + 1, 0, none⟩ = some (.slice ma ml mc)) := m2
  have HW2 : Hid (w2 = ((w.alloc (.cells #[.slice da len cap] 22)).alloc (.cells #[.slice ma ml mc] 23))) := hw2
  clear r0 b2 s2 d2 m2 hw2
  go_enter Yba.func3, Yba.ntmps3
  go_wp2
  go_loopw [6] (fun i wr => ∃ k : Nat, k ≤ len ∧ i = .int .i64 k ∧ Rel1 w2 (w.heap.size + 1 + 1) len z k wr) (fun i _ => len - (intOf i).toNat)
  case atStart => exact ⟨0, Nat.zero_le _, rfl, by rw [← HW2.out]; exact R0.out⟩
  case round =>
    obtain ⟨k, hk, rfl, hrel⟩ := hrel
    have hcb : wr.cell? ⟨w.heap.size, 0, none⟩ = some (.slice da len cap) := (hrel.2.2.1.cell (by simp; omega)).trans D2.out
    have hcm : wr.cell? ⟨w.heap.size + 1, 0, none⟩ = some (.slice ma ml mc) := (hrel.2.2.1.cell (by simp)).trans M2.out
    have hsz : w.heap.size + 1 + 1 < wr.heap.size := hrel.2.2.2
    by_cases hlt : k < len
    · have hi1 : (0 : Int) ≤ (k : Int) := by omega
      have hi2 : (k : Int) < (len : Int) := by omega
      obtain ⟨b, off, hda, hbN, hc⟩ := HD.out k hlt
      have hx := run_index22 da b off len cap k hda hlt
      have hc0 : wr.cell? ⟨b, off + k, none⟩ = some (.int .i64 (z k)) := (hrel.2.2.1.cell (by simp; omega)).trans ((B2.out.cell (by simpa using hbN)).trans hc)
      have hw32 := wrap32_small k (by omega)
      have ht := there_at hrel.1 hlt
      have hnext := rel1_step hrel hlt
      have HR : Hid (Rel1 w2 (w.heap.size + 1 + 1) len z (k + 1) (wr.setCells (w.heap.size + 1 + 1) (k * 6) [.string ⟨#[]⟩, .string ⟨#[]⟩, .int .u8 0, .int .u32 k, .string ⟨#[]⟩, .int .i64 (z k)])) := hnext
      have HT : Hid (wr.there (w.heap.size + 1 + 1) (k * 6) 6) := ht
      clear hml hml' hg1 hg2 hda hc hrel hnext ht hmk
      go_wp2_with (refine wpList_store_mid rfl 32 (.tmp 44) (.tmp 43) rfl (w.heap.size + 1 + 1) (k * 6) _ rfl rfl ?_ ?_ ?_ ?_)
      · exact HT.out
      · exact Yba.size32
      · simp [Value.oneCell']
      go_roundw
      case rel => exact ⟨k + 1, by omega, by go_num, HR.out⟩
      case measure => simp [intOf]; omega
    · obtain rfl : k = len := by omega
      go_wp2_with fail
      obtain ⟨o1, ho1⟩ : ∃ o1 : Obj, o1 = (.cells #[.string ⟨#[]⟩, .int .i64 0, .slice none 0 0, .bool false, .slice none 0 0, .slice none 0 0, .slice none 0 0, .pointer none, .int .i64 0, .slice none 0 0, .bool false,
                .slice (some ⟨w.heap.size + 1 + 1, 0, none⟩) k k, .int .u8 0, .string ⟨#[]⟩, .slice none 0 0, .int .u8 0, .slice none 0 0, .int .i64 0, .string ⟨#[]⟩, .int .u8 0, .int .u8 0,
                .int .i64 0, .string ⟨#[]⟩, .bool false, .bool false, .slice none 0 0, .slice none 0 0, .slice none 0 0, .slice none 0 0, .slice none 0 0] 53) := ⟨_, rfl⟩
      rw [← ho1]
      have hg3 := fun r => grown3 wr o1 (.cells #[.int .i64 0] 3) (.cells #[.bool true] 4) r
      have hrel' := hrel
      refine (high wr.heap.size (w.heap.size + 1 + 1) (wr.heap.size + 1) w.heap.size (wr.heap.size + 1 + 1) (w.heap.size + 1) k cap ml mc z m da ma _ hl ?_ ?_ ?_ ?_ ?_ ?_ ?_ ?_ ?_ ?_).mono ?_
      · exact heap3_1 wr o1 _ _
      · rw [ho1]; exact cell3_0 wr _ 53 _ _ 11
      · exact fun j hj => (hrel.2.1 j hj).kept (hg3 (some (wr.heap.size + 1))) (by omega)
      · omega
      · exact cell_kept (hg3 (some (wr.heap.size + 1))) hcb (by simp; omega)
      · exact cell_kept (hg3 (some (wr.heap.size + 1))) hcm (by simp; omega)
      · intro j hj
        obtain ⟨b, off, hda, hbN, hc⟩ := HD.out j hj
        exact ⟨b, off, hda, by omega, cell_kept (hg3 (some (wr.heap.size + 1))) ((hrel.2.2.1.cell (by simp; omega)).trans ((B2.out.cell (by simpa using hbN)).trans hc)) (by simp; omega)⟩
      · rcases HM.out with h | ⟨h0, mb, mo, hma, hmN, hc⟩
        · exact .inl h
        · exact .inr ⟨h0, hml, mb, mo, hma, by omega, fun j => cell_kept (hg3 (some (wr.heap.size + 1))) ((hrel.2.2.1.cell (by simp; omega)).trans ((B2.out.cell (by simpa using hmN)).trans (hc j))) (by simp; omega)⟩
      · omega
      · omega
      rintro e w1 ⟨rfl, hst⟩
      have hgr : wr.grownBy w1 (some (wr.heap.size + 1)) := grownBy_trans (hg3 (some (wr.heap.size + 1))) hst.1
      have q1 : w1.cell? ⟨wr.heap.size + 1, 0, none⟩ = some (.int .i64 k) := cell_of_one hst.2
      have q2 : w1.cell? ⟨w.heap.size, 0, none⟩ = some (.slice da k cap) := cell_kept hgr hcb (by simp; omega)
      have q3 : w1.cell? ⟨w.heap.size + 1, 0, none⟩ = some (.slice ma ml mc) := cell_kept hgr hcm (by simp; omega)
      have q4 : w1.cell? ⟨wr.heap.size + 1 + 1, 0, none⟩ = some (.bool true) := cell_kept hst.1 (cell3_2 wr o1 _ _ _) (by simp)
      have hbel : Below w.heap.size w w1 := by
        refine (B2.out.trans (hrel.2.2.1.mono (by omega))).trans ?_
        exact ⟨hgr.os, hgr.tape, hgr.output, hgr.size, fun i hi => hgr.block i (by omega) (by simp; omega)⟩
      have HB : Hid (Below w.heap.size w w1) := hbel
      clear hrel hrel' hcb hcm hst hgr hg3 hbel ho1 R0 D2 M2 HW2 S2 B2 hlt
      go_wp2
      go_loopw [13, 14, 15] (fun v o i wx => ∃ j n : Nat, j ≤ k ∧ i = .int .i64 j ∧ v = .int .i64 (hi z m j) ∧ o = .bool (ok m j) ∧ wx = w1.drewN n) (fun _ _ i _ => k - (intOf i).toNat)
      case atStart => exact ⟨0, 0, Nat.zero_le _, rfl, rfl, rfl, rfl⟩
      case round =>
        obtain ⟨j, n, hj, rfl, rfl, rfl, rfl⟩ := hrel
        by_cases hlt : j < k
        · have hi1 : (0 : Int) ≤ (j : Int) := by omega
          have hi2 : (j : Int) < (k : Int) := by omega
          obtain ⟨b, off, hda, hbN, hc⟩ := HD.out j hlt
          have hx := run_index22 da b off k cap j hda hlt
          have hc0 : w1.cell? ⟨b, off + j, none⟩ = some (.int .i64 (z j)) := (HB.out.cell (by simpa using hbN)).trans hc
          have e1 : hi z m (j + 1) = if m j then (if hi z m j < z j then z j else hi z m j) else hi z m j := rfl
          have e2 : ok m (j + 1) = if m j then true else ok m j := rfl
          have E1 : Hid (hi z m (j + 1) = if m j then (if hi z m j < z j then z j else hi z m j) else hi z m j) := e1
          have E2 : Hid (ok m (j + 1) = if m j then true else ok m j) := e2
          clear e1 e2 hda hc q1 q4 hmk hg1 hg2
          rcases HM.out with ⟨hm0, hmf⟩ | ⟨hm0, mb, mo, hma, hmN, hmc⟩
          · have hmj : m j = false := hmf j
            have hd0 : (ml : Int) ≤ 0 := by omega
            clear hmf hm0
            go_wp2
            go_roundw
            case rel => exact ⟨j + 1, n, by omega, by go_num, by rw [E1.out, hmj]; rfl, by rw [E2.out, hmj]; rfl, rfl⟩
            case measure => simp [intOf]; omega
          · have hd0 : (0 : Int) < (ml : Int) := by omega
            have hd1 : ¬ ml = 0 := by omega
            have hd2 : j % ml < ml := Nat.mod_lt _ hm0
            have hy : ∀ w, (Instr.indexAt 23 (.slice ma ml mc) (.int .i64 ((j : Int) % (ml : Int)))).run Yba.prog w = .ok (.pointer (some ⟨mb, mo + j % ml, none⟩)) w := fun w => by
              have := run_index23 ma mb mo ml mc (j % ml) hma hd2 w
              rwa [Int.natCast_emod] at this
            have hc1 : w1.cell? ⟨mb, mo + j % ml, none⟩ = some (.bool (m j)) := (HB.out.cell (by simpa using hmN)).trans (hmc j)
            clear hma hmc
            by_cases hmj : m j = true
            · rw [hmj] at hc1
              by_cases hlt2 : hi z m j < z j
              · go_wp2
                go_quiet (fail)
                go_wp2
                go_roundw
                case rel => exact ⟨j + 1, _, by omega, by go_num, by rw [E1.out, if_pos hmj, if_pos hlt2], by rw [E2.out, if_pos hmj], rfl⟩
                case measure => simp [intOf]; omega
              · go_wp2
                go_quiet (fail)
                go_wp2
                go_roundw
                case rel => exact ⟨j + 1, _, by omega, by go_num, by rw [E1.out, if_pos hmj, if_neg (Int.not_lt.2 hlt2)], by rw [E2.out, if_pos hmj], rfl⟩
                case measure => simp [intOf]; omega
            · have hmj' : m j = false := by simpa using hmj
              rw [hmj'] at hc1
              go_wp2
              go_quiet (fail)
              go_wp2
              go_roundw
              case rel => exact ⟨j + 1, _, by omega, by go_num, by rw [E1.out, if_neg hmj], by rw [E2.out, if_neg hmj], rfl⟩
              case measure => simp [intOf]; omega
        · obtain rfl : j = k := by omega
          go_wp2
          go_ret
          exact ⟨rfl, below_drewN HB.out _⟩

/-- More than 1024 of one or the other: true at once. -/
theorem walk_out (da ma : Option Addr) (len cap ml mc : Nat) (w : World) (h : 1024 < len ∨ 1024 < ml) :
    Calls Yba.prog 3 #[.slice da len cap, .slice ma ml mc] w fun e w' => e = .returned (.bool true) ∧ Below w.heap.size w w' := by
  by_cases h1 : 1024 < len
  · have h1' : (1024 : Int) < (len : Int) := by omega
    clear h
    go_enter Yba.func3, Yba.ntmps3
    go_wp2
    go_ret
    exact ⟨rfl, ((Below.refl _ _).alloc (Nat.le_refl _) _).alloc (by simp) _⟩
  · have h1' : ¬ (1024 : Int) < (len : Int) := by omega
    have h2' : (1024 : Int) < (ml : Int) := by omega
    clear h
    go_enter Yba.func3, Yba.ntmps3
    go_wp2
    go_ret
    exact ⟨rfl, ((Below.refl _ _).alloc (Nat.le_refl _) _).alloc (by simp) _⟩

theorem walk (da ma : Option Addr) (len cap ml mc : Nat) (z : Nat → Int) (mb : Nat → Bool) (w : World)
    (hD : ∀ k, k < len → ∃ b off, da = some ⟨b, off, none⟩ ∧ b < w.heap.size ∧ w.cell? ⟨b, off + k, none⟩ = some (.int .i64 (z k)))
    (hM : ∀ k, k < ml → ∃ b off, ma = some ⟨b, off, none⟩ ∧ b < w.heap.size ∧ w.cell? ⟨b, off + k, none⟩ = some (.bool (mb k))) :
    Calls Yba.prog 3 #[.slice da len cap, .slice ma ml mc] w fun e w' => e = .returned (.bool true) ∧ Below w.heap.size w w' := by
  by_cases h : 1024 < len ∨ 1024 < ml
  · exact walk_out da ma len cap ml mc w h
  · refine walk_in da ma len cap ml mc z (fun k => if ml = 0 then false else mb (k % ml)) w (by omega) (by omega) hD ?_
    by_cases h0 : ml = 0
    · exact .inl ⟨h0, fun k => by simp [h0]⟩
    · have hp : 0 < ml := by omega
      obtain ⟨b, off, hma, hb, _⟩ := hM 0 hp
      refine .inr ⟨hp, b, off, hma, hb, fun k => ?_⟩
      obtain ⟨b', off', hma', _, hc⟩ := hM (k % ml) (Nat.mod_lt _ hp)
      rw [hma] at hma'
      simp only [Option.some.injEq, Addr.mk.injEq] at hma'
      obtain ⟨rfl, rfl, _⟩ := hma'
      simpa [h0] using hc
end Go.Proofs.Ybulkrqs
