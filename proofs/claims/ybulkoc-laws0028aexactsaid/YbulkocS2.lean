import Derived.Test.YbulkocS1
namespace Go.Proofs.Ybulkoc
set_option linter.unusedVariables false

/-- The order that a stable sort makes: by the instant, then by the mark. -/
def elt (x y : E) : Prop := x.1 < y.1 ∨ (x.1 = y.1 ∧ x.2.2 < y.2.2)
theorem elt_trans {x y z : E} (h : elt x y) (k : elt y z) : elt x z := by unfold elt at *; omega
theorem elt_right {x y : E} (hg : x.2.2 < y.2.2) (h : ¬ y.1 < x.1) : elt x y := by unfold elt; omega
theorem elt_left {x y : E} (h : y.1 < x.1) : elt y x := Or.inl h
theorem elt_key {x y : E} (h : elt x y) : x.1 ≤ y.1 := by unfold elt at h; omega

/-- Sorted from a on, up to b. -/
def Sorted (L : Nat → E) (a b : Nat) : Prop := ∀ i j, a ≤ i → i < j → j < b → elt (L i) (L j)
/-- The marks rise from a on, up to b. -/
def Rising (L : Nat → E) (a b : Nat) : Prop := ∀ i j, a ≤ i → i < j → j < b → (L i).2.2 < (L j).2.2

/-- L' is L with its elements from a to b rearranged. -/
def Shuf (a b : Nat) (L L' : Nat → E) : Prop :=
  ∃ σ τ : Nat → Nat, (∀ i, σ (τ i) = i) ∧ (∀ i, τ (σ i) = i) ∧ (∀ i, (i < a ∨ b ≤ i) → σ i = i) ∧ ∀ i, L' i = L (σ i)

theorem Shuf.refl (a b : Nat) (L : Nat → E) : Shuf a b L L := ⟨id, id, fun _ => rfl, fun _ => rfl, fun _ _ => rfl, fun _ => rfl⟩
theorem Shuf.trans {a b : Nat} {L M N : Nat → E} (h : Shuf a b L M) (k : Shuf a b M N) : Shuf a b L N := by
  obtain ⟨σ, τ, h1, h2, h3, h4⟩ := h
  obtain ⟨σ', τ', k1, k2, k3, k4⟩ := k
  exact ⟨fun i => σ (σ' i), fun i => τ' (τ i), fun i => by show σ (σ' (τ' (τ i))) = i; rw [k1, h1], fun i => by show τ' (τ (σ (σ' i))) = i; rw [h2, k2], fun i hi => by show σ (σ' i) = i; rw [k3 i hi, h3 i hi], fun i => by show N i = L (σ (σ' i)); rw [k4, h4]⟩
theorem Shuf.mono {a b a' b' : Nat} {L M : Nat → E} (h : Shuf a b L M) (ha : a' ≤ a) (hb : b ≤ b') : Shuf a' b' L M := by
  obtain ⟨σ, τ, h1, h2, h3, h4⟩ := h
  exact ⟨σ, τ, h1, h2, fun i hi => h3 i (by omega), h4⟩
theorem Shuf.out {a b : Nat} {L M : Nat → E} (h : Shuf a b L M) {i : Nat} (hi : i < a ∨ b ≤ i) : M i = L i := by
  obtain ⟨σ, τ, h1, h2, h3, h4⟩ := h
  rw [h4, h3 i hi]
theorem Shuf.inn {a b : Nat} {L M : Nat → E} (h : Shuf a b L M) {i : Nat} (h0 : a ≤ i) (h1 : i < b) : ∃ j, a ≤ j ∧ j < b ∧ M i = L j := by
  obtain ⟨σ, τ, k1, k2, k3, k4⟩ := h
  refine ⟨σ i, ?_, ?_, k4 i⟩
  · rcases Nat.lt_or_ge (σ i) a with h | h
    · have e := k3 (σ i) (Or.inl h)
      have := congrArg τ e
      rw [k2, k2] at this
      omega
    · exact h
  · rcases Nat.lt_or_ge (σ i) b with h | h
    · exact h
    · have e := k3 (σ i) (Or.inr h)
      have := congrArg τ e
      rw [k2, k2] at this
      omega
def tsp (i j t : Nat) : Nat := if t = i then j else if t = j then i else t
theorem tsp_tsp (i j t : Nat) : tsp i j (tsp i j t) = t := by
  unfold tsp
  by_cases h1 : t = i <;> by_cases h2 : t = j <;> by_cases h3 : j = i <;> simp [*] <;> omega
theorem swp_tsp (L : Nat → E) (i j t : Nat) : swp L i j t = L (tsp i j t) := by unfold swp tsp; split <;> (try split) <;> rfl
theorem Shuf.swap {a b i j : Nat} (L : Nat → E) (hi : a ≤ i ∧ i < b) (hj : a ≤ j ∧ j < b) : Shuf a b L (swp L i j) :=
  ⟨tsp i j, tsp i j, tsp_tsp i j, tsp_tsp i j, fun t ht => by unfold tsp; rw [if_neg (by omega), if_neg (by omega)], swp_tsp L i j⟩

/-! ### an insertion -/
structure Ins (M : Nat → E) (a i j : Nat) : Prop where
  rest : ∀ p q, a ≤ p → p < q → q ≤ i → p ≠ j → q ≠ j → elt (M p) (M q)
  above : ∀ q, j < q → q ≤ i → elt (M j) (M q)
  mark : ∀ p, a ≤ p → p ≤ i → p ≠ j → (M p).2.2 < (M j).2.2

theorem Ins.start {M : Nat → E} {a i : Nat} (h : Sorted M a i) (hm : ∀ p, a ≤ p → p < i → (M p).2.2 < (M i).2.2) : Ins M a i i :=
  ⟨fun p q h1 h2 h3 h4 h5 => h p q h1 h2 (by omega), fun q h1 h2 => by omega, fun p h1 h2 h3 => hm p h1 (by omega)⟩
theorem Ins.step {M : Nat → E} {a i j : Nat} (h : Ins M a i j) (ha : a < j) (hj : j ≤ i) (hk : (M j).1 < (M (j - 1)).1) : Ins (swp M j (j - 1)) a i (j - 1) := by
  have e1 : swp M j (j - 1) (j - 1) = M j := by unfold swp; rw [if_neg (by omega), if_pos rfl]
  have e2 : swp M j (j - 1) j = M (j - 1) := by unfold swp; rw [if_pos rfl]
  have e3 : ∀ t, t ≠ j → t ≠ j - 1 → swp M j (j - 1) t = M t := fun t h1 h2 => by unfold swp; rw [if_neg h1, if_neg h2]
  refine ⟨fun p q h1 h2 h3 h4 h5 => ?_, fun q h1 h2 => ?_, fun p h1 h2 h3 => ?_⟩
  · by_cases hp : p = j
    · subst hp
      rw [e2, e3 q (by omega) h5]
      exact h.rest (p - 1) q (by omega) (by omega) h3 (by omega) (by omega)
    · by_cases hq : q = j
      · subst hq
        rw [e2, e3 p hp h4]
        exact h.rest p (q - 1) h1 (by omega) (by omega) (by omega) (by omega)
      · rw [e3 p hp h4, e3 q hq h5]
        exact h.rest p q h1 h2 h3 hp hq
  · rw [e1]
    by_cases hq : q = j
    · subst hq; rw [e2]; exact Or.inl hk
    · rw [e3 q hq (by omega)]; exact h.above q (by omega) h2
  · rw [e1]
    by_cases hp : p = j
    · subst hp; rw [e2]; exact h.mark (p - 1) (by omega) (by omega) (by omega)
    · rw [e3 p hp h3]; exact h.mark p h1 h2 hp
theorem Ins.stop {M : Nat → E} {a i j : Nat} (h : Ins M a i j) (hj : j ≤ i) (haj : a ≤ j) (hs : j = a ∨ ¬ (M j).1 < (M (j - 1)).1) : Sorted M a (i + 1) := by
  intro p q h1 h2 h3
  by_cases hp : p = j
  · subst hp; exact h.above q h2 (by omega)
  · by_cases hq : q = j
    · subst hq
      rcases hs with hs | hs
      · omega
      · have h5 := elt_right (h.mark (q - 1) (by omega) (by omega) (by omega)) hs
        by_cases hpq : p = q - 1
        · rw [hpq]; exact h5
        · exact elt_trans (h.rest p (q - 1) h1 (by omega) (by omega) hp (by omega)) h5
    · exact h.rest p q h1 h2 (by omega) hp hq
end Go.Proofs.Ybulkoc
