/-
  Seat b0905a. A REGION THAT DRAWS ITS ORDER, WHOSE LAST OPERATION (number z: it waits for all others) STORES A CELL THAT THE REGION LOADS: a load may be taken first where S, which need not hold behind z, gives what it reads.
-/
import Derived.Deep.RegionHeld3
import Derived.Test.YbulkrsiPure
namespace Go.Proofs.Ybulkrsi

section
variable {P : Program} {ops : Array Oper} {Q : Exit → Act → World → Prop} {md : Region.Mode} {S : World → Prop} {z : Nat}

/-- Whatever comes up next; S holds behind every operation but z. -/
def Ways (P : Program) (md : Region.Mode) (ops : Array Oper) (Q : Exit → Act → World → Prop) (S : World → Prop) (z : Nat) (fuel : Nat) (listed : Array Bool) (a : Act) (w : World) : Prop :=
  Nat.rec (motive := fun _ => Array Bool → Act → World → Prop) (fun l a w => Region.ready md ops l = [] ∧ Q .normal a w)
    (fun _ next l a w => (Region.ready md ops l = [] → Q .normal a w) ∧ ∀ i ∈ Region.ready md ops l, wpOp P ops Q i (fun a' w' => (i ≠ z → S w') ∧ next (l.setIfInBounds i true) a' w') a w) fuel listed a w

theorem ways_any : ∀ (fuel : Nat) (listed : Array Bool) (a : Act) (w : World), Ways P md ops Q S z fuel listed a w → wpAny P md ops Q fuel listed a w
  | 0, _, _, _, h => h
  | fuel + 1, _, _, _, h => ⟨h.1, fun i hi => wpOp_mono (fun a' w' h' => ways_any fuel _ a' w' h'.2) (h.2 i hi)⟩

/-- z waits for i. -/
def waits (md : Region.Mode) (ops : Array Oper) (z i : Nat) : Bool := match ops[z]? with | some o => o.after.any (fun e => Region.binds md e && e.on == i) | none => false

theorem not_ready_of_waits {i : Nat} {listed : Array Bool} (hw : waits md ops z i = true) (hi : i ∈ Region.ready md ops listed) : z ∉ Region.ready md ops listed := by
  intro hz
  obtain ⟨_, oz, hoz, hall⟩ := mem_ready.1 hz
  obtain ⟨hun, _⟩ := mem_ready.1 hi
  unfold waits at hw
  rw [hoz] at hw
  obtain ⟨e, he, hb⟩ := Array.any_eq_true'.1 hw
  rw [Bool.and_eq_true] at hb
  have hon : e.on = i := by simpa using hb.2
  have h1 := hall e he hb.1
  rw [hon] at h1
  rcases Nat.lt_or_ge i listed.size with h' | h'
  · simp [h'] at hun h1
    rw [hun] at h1
    cases h1
  · simp [Array.getElem?_eq_none h'] at h1

theorem ways_first {i : Nat} {oi : Oper} {v : Value} (hi : ops[i]? = some oi) (hsel : ∀ (j : Nat) (o : Oper) cs b, ops[j]? = some o → o.op ≠ .select cs b) (hw : waits md ops z i = true)
    (hQ : ∀ c a w, Q (.panic c) (a.put oi.dst v) w → Q (.panic c) a w) : ∀ (fuel : Nat) (listed : Array Bool) (a : Act) (w : World),
      (∀ j oj, ops[j]? = some oj → j ≠ i → listed.getD j true = false → (∀ e ∈ oj.after, Region.binds md e = true → e.on ≠ i) → oi.apart ops oj = true) →
      i ∈ Region.ready md ops listed → YieldsIf P ops S oi v a → S w → Ways P md ops Q S z fuel (listed.setIfInBounds i true) (a.put oi.dst v) w → Ways P md ops Q S z (fuel + 1) listed a w := by
  intro fuel
  induction fuel with
  | zero =>
    intro listed a w _ hr hy hS H
    refine ⟨fun h => absurd (h ▸ hr) (by simp), fun j hj => ?_⟩
    by_cases e : j = i
    · subst e
      exact hy.wpOp hi hS ⟨fun _ => hS, H⟩
    · exact absurd (H.1 ▸ ready_mono hj e) (by simp)
  | succ fuel ih =>
    intro listed a w hfree hr hy hS H
    refine ⟨fun h => absurd (h ▸ hr) (by simp), fun j hj => ?_⟩
    by_cases e : j = i
    · subst e
      exact hy.wpOp hi hS ⟨fun _ => hS, H⟩
    · have hjz : j ≠ z := fun h => not_ready_of_waits hw hr (h ▸ hj)
      obtain ⟨hjun, oj, hoj, hall⟩ := mem_ready.1 hj
      have hno : ∀ x ∈ oj.after, Region.binds md x = true → x.on ≠ i := by
        intro x hx hb heq
        have h1 := hall x hx hb
        obtain ⟨hun, _⟩ := mem_ready.1 hr
        rw [heq] at h1
        rcases Nat.lt_or_ge i listed.size with h' | h'
        · simp [h'] at hun h1
          rw [hun] at h1
          cases h1
        · simp [Array.getElem?_eq_none h'] at h1
      have h2 := wpOp_putIf hoj (hfree j oj hoj e hjun hno) (fun cs b => hsel i oi cs b hi) (fun cs b => hsel j oj cs b hoj) hQ hy (H.2 j (ready_mono hj e))
      refine wpOp_mono (fun a' w' h3 => ⟨fun _ => h3.2.1 hjz, ih _ a' w' (fun k ok hk hki hun hn => ?_) (ready_mono hr (Ne.symm e)) h3.1 (h3.2.1 hjz) ?_⟩) h2
      · refine hfree k ok hk hki ?_ hn
        by_cases ejk : j = k
        · subst ejk; exact hjun
        · rwa [getD_set_ne true ejk] at hun
      · rw [Array.setIfInBounds_comm _ _ e]
        exact h3.2.2

/-- Take number i first. -/
theorem ways_take {i : Nat} {oi : Oper} {v : Value} {fuel : Nat} {listed : Array Bool} {a : Act} {w : World} (hi : ops[i]? = some oi) (hs : Region.noSelect ops = true) (hf : Region.free md ops listed i = true) (hr : (Region.ready md ops listed).contains i = true) (hw : waits md ops z i = true)
    (hQ : ∀ c a w, Q (.panic c) (a.put oi.dst v) w → Q (.panic c) a w) (hy : YieldsIf P ops S oi v a) (hS : S w) (h : Ways P md ops Q S z fuel (listed.setIfInBounds i true) (a.put oi.dst v) w) : Ways P md ops Q S z (fuel + 1) listed a w :=
  ways_first hi (Region.noSelect_spec hs) hw hQ fuel listed a w (Region.free_spec hi hf) (by simpa using hr) hy hS h

/-- Number i alone may come up, and it is not z. -/
theorem ways_one {i : Nat} {o : Oper} {fuel : Nat} {listed : Array Bool} {a : Act} {w : World} (ho : ops[i]? = some o) (hr : Region.ready md ops listed = [i])
    (h : ∀ K' : Act → World → Prop, Shut (∀ a w, S w → Ways P md ops Q S z fuel (listed.setIfInBounds i true) a w → K' a w) → if Region.wanted o (yielded ops a.tmps) = true then Oper.wp P o a w K' Q else K' (a.put o.dst undef) w) : Ways P md ops Q S z (fuel + 1) listed a w := by
  refine ⟨fun h0 => absurd (hr ▸ h0) (by simp), fun j hj => ?_⟩
  rw [hr] at hj
  obtain rfl : j = i := by simpa using hj
  exact wpOp_step ho (fun K' hK => h K' (fun a w hS hW => hK a w ⟨fun _ => hS, hW⟩))

/-- z comes up, the last. -/
theorem ways_last {o : Oper} {fuel : Nat} {listed : Array Bool} {a : Act} {w : World} (ho : ops[z]? = some o) (hr : Region.ready md ops listed = [z]) (hr2 : Region.ready md ops (listed.setIfInBounds z true) = [])
    (h : ∀ K' : Act → World → Prop, Shut (∀ a w, Q .normal a w → K' a w) → if Region.wanted o (yielded ops a.tmps) = true then Oper.wp P o a w K' Q else K' (a.put o.dst undef) w) : Ways P md ops Q S z (fuel + 1) listed a w := by
  refine ⟨fun h0 => absurd (hr ▸ h0) (by simp), fun j hj => ?_⟩
  rw [hr] at hj
  obtain rfl : j = z := by simpa using hj
  refine wpOp_step ho (fun K' hK => h K' (fun a w hq => hK a w ⟨fun hn => absurd rfl hn, ?_⟩))
  cases fuel with
  | zero => exact ⟨hr2, hq⟩
  | succ f => exact ⟨fun _ => hq, fun k hk => absurd (hr2 ▸ hk) (by simp)⟩

/-- The beginning. -/
theorem ways_begin {id : Nat} {a : Act} {w : World} (hm : P.follows .mixedOrders = true) (h : Ways P .any ops Q S z ops.size (Array.replicate ops.size false) a w.drew) : (Code.region id ops true).wp P Q a w :=
  wp_region_any hm (ways_any _ _ _ _ h)
end
end Go.Proofs.Ybulkrsi
