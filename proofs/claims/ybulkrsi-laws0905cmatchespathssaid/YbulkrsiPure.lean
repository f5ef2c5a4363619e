/-
  Seat b0905a. PLAIN MATHEMATICS, no Go: paths, the walk of auth chains, counts.
-/
import Derived.Test.YbulkrsiRows
namespace Go.Proofs.Ybulkrsi

/-- m, but v at x. -/
def upd (m : Nat → Bool) (x : Nat) (v : Bool) : Nat → Bool := fun y => if y = x then v else m y
theorem upd_same (m : Nat → Bool) (x : Nat) (v : Bool) : upd m x v x = v := by simp [upd]
theorem upd_other (m : Nat → Bool) {x y : Nat} (v : Bool) (h : y ≠ x) : upd m x v y = m y := by simp [upd, h]
theorem upd_mono (m : Nat → Bool) (x y : Nat) (h : m y = true) : upd m x true y = true := by unfold upd; split <;> simp_all

/-- How many of the first k are not in h. -/
def cf (h : Nat → Bool) : Nat → Nat
  | 0 => 0
  | k + 1 => cf h k + (if h k then 0 else 1)
theorem cf_congr {h h' : Nat → Bool} : ∀ k, (∀ x, x < k → h x = h' x) → cf h k = cf h' k
  | 0, _ => rfl
  | k + 1, hx => by rw [cf, cf, cf_congr k (fun x hk => hx x (by omega)), hx k (by omega)]
theorem cf_upd_past (h : Nat → Bool) (y : Nat) : ∀ k, k ≤ y → cf (upd h y true) k = cf h k := fun k hk => cf_congr k fun x hx => upd_other h true (by omega)
theorem cf_upd (h : Nat → Bool) (y : Nat) (hy : h y = false) : ∀ k, y < k → cf (upd h y true) k + 1 = cf h k
  | 0, hk => by omega
  | k + 1, hk => by
    by_cases e : y = k
    · subst e
      rw [cf, cf, cf_upd_past h y y (Nat.le_refl _), upd_same, hy]
      simp
    · have := cf_upd h y hy k (by omega)
      rw [cf, cf, upd_other h true (show k ≠ y by omega)]
      omega

/-- A path of at least one step. -/
inductive Pth (au : Nat → List Nat) : Nat → Nat → Prop
  | one {x y : Nat} : y ∈ au x → Pth au x y
  | step {x y z : Nat} : y ∈ au x → Pth au y z → Pth au x z
theorem Pth.snoc {au : Nat → List Nat} {x y z : Nat} (h : Pth au x y) (hz : z ∈ au y) : Pth au x z := by
  induction h with
  | one hy => exact .step hy (.one hz)
  | step hy _ ih => exact .step hy (ih hz)
theorem Pth.first {au : Nat → List Nat} {x z : Nat} (h : Pth au x z) : ∃ y, y ∈ au x ∧ (y = z ∨ Pth au y z) := by
  cases h with
  | one hy => exact ⟨_, hy, .inl rfl⟩
  | step hy hr => exact ⟨_, hy, .inr hr⟩

/-- THE WALK OF THE AUTH CHAINS: c the nodes it starts from, h what it holds, wl what is left to walk; p is under way: the first j of its auth events are seen to. -/
structure CI (au : Nat → List Nat) (c : List Nat) (h : Nat → Bool) (wl : List Nat) (p j : Nat) : Prop where
  sound : ∀ x, h x = true → ∃ y, y ∈ c ∧ Pth au y x
  from_ : ∀ x, x ∈ wl → x ∈ c ∨ h x = true
  cur : p ∈ c ∨ h p = true
  seen : ∀ i q, i < j → (au p)[i]? = some q → h q = true
  cover : ∀ x, x ∈ c ∨ h x = true → x ∈ wl ∨ x = p ∨ ∀ y, y ∈ au x → h y = true
/-- Between two nodes. -/
structure CO (au : Nat → List Nat) (c : List Nat) (h : Nat → Bool) (wl : List Nat) : Prop where
  sound : ∀ x, h x = true → ∃ y, y ∈ c ∧ Pth au y x
  from_ : ∀ x, x ∈ wl → x ∈ c ∨ h x = true
  cover : ∀ x, x ∈ c ∨ h x = true → x ∈ wl ∨ ∀ y, y ∈ au x → h y = true

theorem CO.start (au : Nat → List Nat) (c : List Nat) : CO au c (fun _ => false) c :=
  ⟨fun _ h => by simp at h, fun x hx => .inl hx, fun x hx => by rcases hx with h | h; exact .inl h; simp at h⟩
theorem CO.pop {au : Nat → List Nat} {c : List Nat} {h : Nat → Bool} {wl : List Nat} {p : Nat} (o : CO au c h (wl ++ [p])) : CI au c h wl p 0 := by
  refine ⟨o.sound, fun x hx => o.from_ x (by simp [hx]), o.from_ p (by simp), fun i q hi => by omega, fun x hx => ?_⟩
  rcases o.cover x hx with h1 | h1
  · rcases List.mem_append.1 h1 with h2 | h2
    · exact .inl h2
    · exact .inr (.inl (by simpa using h2))
  · exact .inr (.inr h1)
theorem CI.done {au : Nat → List Nat} {c : List Nat} {h : Nat → Bool} {wl : List Nat} {p : Nat} (o : CI au c h wl p (au p).length) : CO au c h wl := by
  refine ⟨o.sound, o.from_, fun x hx => ?_⟩
  rcases o.cover x hx with h1 | rfl | h1
  · exact .inl h1
  · refine .inr fun y hy => ?_
    obtain ⟨i, hi, e⟩ := List.getElem_of_mem hy
    exact o.seen i y hi (by rw [List.getElem?_eq_getElem hi, e])
  · exact .inr h1
theorem CI.skip {au : Nat → List Nat} {c : List Nat} {h : Nat → Bool} {wl : List Nat} {p j q : Nat} (o : CI au c h wl p j) (hq : (au p)[j]? = some q) (hh : h q = true) : CI au c h wl p (j + 1) :=
  ⟨o.sound, o.from_, o.cur, fun i r hi hr => by
    by_cases e : i = j
    · subst e; rw [hq] at hr; cases hr; exact hh
    · exact o.seen i r (by omega) hr, o.cover⟩
theorem CI.add {au : Nat → List Nat} {c : List Nat} {h : Nat → Bool} {wl : List Nat} {p j q : Nat} (o : CI au c h wl p j) (hq : (au p)[j]? = some q) : CI au c (upd h q true) (wl ++ [q]) p (j + 1) := by
  have hm : q ∈ au p := List.mem_of_getElem? hq
  have hpq : ∃ y, y ∈ c ∧ Pth au y q := by
    rcases o.cur with h1 | h1
    · exact ⟨p, h1, .one hm⟩
    · obtain ⟨y, hy, hp⟩ := o.sound p h1
      exact ⟨y, hy, hp.snoc hm⟩
  refine ⟨fun x hx => ?_, fun x hx => ?_, ?_, fun i r hi hr => ?_, fun x hx => ?_⟩
  · by_cases e : x = q
    · subst e; exact hpq
    · rw [upd_other h true e] at hx; exact o.sound x hx
  · rcases List.mem_append.1 hx with h1 | h1
    · exact (o.from_ x h1).imp id (upd_mono h q x)
    · have : x = q := by simpa using h1
      subst this
      exact .inr (upd_same h x true)
  · exact o.cur.imp id (upd_mono h q p)
  · by_cases e : i = j
    · subst e; rw [hq] at hr; cases hr; exact upd_same h q true
    · exact upd_mono h q r (o.seen i r (by omega) hr)
  · by_cases e : x = q
    · subst e; exact .inl (by simp)
    · have hx' : x ∈ c ∨ h x = true := hx.imp id (fun h1 => by rwa [upd_other h true e] at h1)
      rcases o.cover x hx' with h1 | h1 | h1
      · exact .inl (by simp [h1])
      · exact .inr (.inl h1)
      · exact .inr (.inr fun y hy => upd_mono h q y (h1 y hy))
/-- Behind the walk: what is held is what a path from c reaches. -/
theorem CO.fin {au : Nat → List Nat} {c : List Nat} {h : Nat → Bool} (o : CO au c h []) (x : Nat) : h x = true ↔ ∃ y, y ∈ c ∧ Pth au y x := by
  refine ⟨o.sound x, fun ⟨y, hy, hp⟩ => ?_⟩
  have key : ∀ a b, Pth au a b → (a ∈ c ∨ h a = true) → h b = true := by
    intro a b hp
    induction hp with
    | one hb => intro ha; rcases o.cover _ ha with h1 | h1; (simp at h1); exact h1 _ hb
    | step hb _ ih => intro ha; rcases o.cover _ ha with h1 | h1; (simp at h1); exact ih (.inr (h1 _ hb))
  exact key y x hp (.inl hy)
end Go.Proofs.Ybulkrsi
