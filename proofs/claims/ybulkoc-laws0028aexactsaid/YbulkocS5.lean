import Derived.Test.YbulkocS4
namespace Go.Proofs.Ybulkoc
set_option linter.unusedVariables false

/-- The marks from a to m are less than those from m to b. -/
def Mks (L : Nat → E) (a m b : Nat) : Prop := ∀ i j, a ≤ i → i < m → m ≤ j → j < b → (L i).2.2 < (L j).2.2

theorem Sorted.le {L : Nat → E} {a b i j : Nat} (h : Sorted L a b) (h0 : a ≤ i) (h1 : i ≤ j) (h2 : j < b) : (L i).1 ≤ (L j).1 := by
  rcases Nat.eq_or_lt_of_le h1 with e | e
  · rw [e]; exact Int.le_refl _
  · exact elt_key (h i j h0 e h2)

theorem rot_lo (L : Nat → E) (x i j t : Nat) (h : t < x) : rot L x i j t = L t := by
  unfold rot; rw [if_neg (by omega), if_neg (by omega)]
theorem rot_hi (L : Nat → E) (x i j t : Nat) (h : x + i + j ≤ t) : rot L x i j t = L t := by
  unfold rot; rw [if_neg (by omega), if_neg (by omega)]
theorem rot_1 (L : Nat → E) (x i j t : Nat) (h0 : x ≤ t) (h1 : t < x + j) : rot L x i j t = L (t + i) := by
  unfold rot; rw [if_pos ⟨h0, h1⟩]
theorem rot_2 (L : Nat → E) (x i j t : Nat) (h0 : x + j ≤ t) (h1 : t < x + j + i) : rot L x i j t = L (t - j) := by
  unfold rot; rw [if_neg (by omega), if_pos ⟨h0, h1⟩]
theorem rot_nil (L : Nat → E) (x j : Nat) : rot L x 0 j = L := by
  funext t
  unfold rot
  split
  · rfl
  · rw [if_neg (by omega)]
theorem rot_nil' (L : Nat → E) (x i : Nat) : rot L x i 0 = L := by
  funext t
  unfold rot
  rw [if_neg (by omega)]
  split <;> rfl

/-- one step of the way right of the element at a -/
theorem rot_stepR (L : Nat → E) (a j : Nat) : swp (rot L a 1 j) (a + j) (a + j + 1) = rot L a 1 (j + 1) := by
  funext t
  unfold swp
  by_cases h1 : t = a + j
  · subst h1
    rw [if_pos rfl, rot_hi _ _ _ _ _ (by omega), rot_1 _ _ _ _ _ (by omega) (by omega)]
  · rw [if_neg h1]
    by_cases h2 : t = a + j + 1
    · subst h2
      rw [if_pos rfl, rot_2 _ _ _ _ _ (by omega) (by omega), rot_2 _ _ _ _ _ (by omega) (by omega)]
      congr 1; omega
    · rw [if_neg h2]
      by_cases h3 : t < a
      · rw [rot_lo _ _ _ _ _ h3, rot_lo _ _ _ _ _ h3]
      · by_cases h4 : t < a + j
        · rw [rot_1 _ _ _ _ _ (by omega) (by omega), rot_1 _ _ _ _ _ (by omega) (by omega)]
        · rw [rot_hi _ _ _ _ _ (by omega), rot_hi _ _ _ _ _ (by omega)]
/-- one step of the way left of the element at m -/
theorem rot_stepL (L : Nat → E) (x i : Nat) : swp (rot L (x + 1) i 1) (x + 1) x = rot L x (i + 1) 1 := by
  funext t
  unfold swp
  by_cases h1 : t = x + 1
  · subst h1
    rw [if_pos rfl, rot_lo _ _ _ _ _ (by omega), rot_2 _ _ _ _ _ (by omega) (by omega)]
    congr 1
  · rw [if_neg h1]
    by_cases h2 : t = x
    · subst h2
      rw [if_pos rfl, rot_1 _ _ _ _ _ (by omega) (by omega), rot_1 _ _ _ _ _ (by omega) (by omega)]
      congr 1; omega
    · rw [if_neg h2]
      by_cases h3 : t < x
      · rw [rot_lo _ _ _ _ _ (by omega), rot_lo _ _ _ _ _ h3]
      · by_cases h4 : t < x + 1 + i + 1
        · rw [rot_2 _ _ _ _ _ (by omega) (by omega), rot_2 _ _ _ _ _ (by omega) (by omega)]
        · rw [rot_hi _ _ _ _ _ (by omega), rot_hi _ _ _ _ _ (by omega)]

theorem merge_one {L : Nat → E} {a b i : Nat} (h2 : Sorted L (a + 1) b) (hm : Mks L a (a + 1) b) (hi : a + 1 ≤ i) (hib : i ≤ b)
    (hl : i = a + 1 ∨ (L (i - 1)).1 < (L a).1) (hr : i = b ∨ ¬ (L i).1 < (L a).1) : Sorted (rot L a 1 (i - 1 - a)) a b := by
  intro p q h3 h4 h5
  have low : ∀ t, a + 1 ≤ t → t < i → (L t).1 < (L a).1 := fun t k1 k2 => by
    rcases hl with hl | hl
    · omega
    · have := h2.le k1 (show t ≤ i - 1 by omega) (by omega)
      omega
  have high : ∀ t, i ≤ t → t < b → ¬ (L t).1 < (L a).1 := fun t k1 k2 => by
    rcases hr with hr | hr
    · omega
    · have := h2.le hi k1 k2
      omega
  by_cases c1 : p < i - 1
  · rw [rot_1 _ _ _ _ _ (by omega) (by omega)]
    by_cases c2 : q < i - 1
    · rw [rot_1 _ _ _ _ _ (by omega) (by omega)]
      exact h2 _ _ (by omega) (by omega) (by omega)
    · by_cases c3 : q = i - 1
      · rw [rot_2 _ _ _ _ _ (by omega) (by omega), show q - (i - 1 - a) = a by omega]
        exact elt_left (low _ (by omega) (by omega))
      · rw [rot_hi _ _ _ _ _ (by omega)]
        exact h2 _ _ (by omega) (by omega) (by omega)
  · by_cases c2 : p = i - 1
    · rw [rot_2 _ _ _ _ _ (by omega) (by omega), show p - (i - 1 - a) = a by omega, rot_hi _ _ _ _ _ (by omega)]
      exact elt_right (hm a q (Nat.le_refl _) (by omega) (by omega) h5) (high q (by omega) h5)
    · rw [rot_hi _ _ _ _ _ (by omega), rot_hi _ _ _ _ _ (by omega)]
      exact h2 _ _ (by omega) h4 h5

theorem merge_last {L : Nat → E} {a m i : Nat} (h1 : Sorted L a m) (hm : Mks L a m (m + 1)) (hi : a ≤ i) (him : i ≤ m)
    (hl : i = a ∨ ¬ (L m).1 < (L (i - 1)).1) (hr : i = m ∨ (L m).1 < (L i).1) : Sorted (rot L i (m - i) 1) a (m + 1) := by
  intro p q h3 h4 h5
  have low : ∀ t, a ≤ t → t < i → ¬ (L m).1 < (L t).1 := fun t k1 k2 => by
    rcases hl with hl | hl
    · omega
    · have := h1.le k1 (show t ≤ i - 1 by omega) (by omega)
      omega
  have high : ∀ t, i ≤ t → t < m → (L m).1 < (L t).1 := fun t k1 k2 => by
    rcases hr with hr | hr
    · omega
    · have := h1.le hi k1 k2
      omega
  by_cases c1 : p < i
  · rw [rot_lo _ _ _ _ _ c1]
    by_cases c2 : q < i
    · rw [rot_lo _ _ _ _ _ c2]
      exact h1 _ _ h3 h4 (by omega)
    · by_cases c3 : q = i
      · rw [rot_1 _ _ _ _ _ (by omega) (by omega), show q + (m - i) = m by omega]
        exact elt_right (hm p m h3 (by omega) (Nat.le_refl _) (by omega)) (low p h3 c1)
      · rw [rot_2 _ _ _ _ _ (by omega) (by omega)]
        exact h1 _ _ h3 (by omega) (by omega)
  · by_cases c2 : p = i
    · rw [rot_1 _ _ _ _ _ (by omega) (by omega), show p + (m - i) = m by omega, rot_2 _ _ _ _ _ (by omega) (by omega)]
      exact elt_left (high _ (by omega) (by omega))
    · rw [rot_2 _ _ _ _ _ (by omega) (by omega), rot_2 _ _ _ _ _ (by omega) (by omega)]
      exact h1 _ _ (by omega) (by omega) (by omega)

/-- What the search and the rotation leave: mid is in the middle, s the place found, e its mirror. -/
structure Halves (M : Nat → E) (a s mid e b : Nat) : Prop where
  s1 : Sorted M a s
  s2 : Sorted M s mid
  s3 : Sorted M mid e
  s4 : Sorted M e b
  m1 : Mks M a s mid
  m2 : Mks M mid e b
  cross : ∀ p q, a ≤ p → p < mid → mid ≤ q → q < b → elt (M p) (M q)

theorem halves {L : Nat → E} {a m b mid s e : Nat} (hm0 : a < m) (hm1 : m < b) (h1 : Sorted L a m) (h2 : Sorted L m b) (hm : Mks L a m b)
    (hs : a ≤ s) (hsm : s ≤ m) (hsd : s ≤ mid) (he : e + s = mid + m) (heb : e ≤ b)
    (hl : s = a ∨ e = b ∨ ¬ (L e).1 < (L (s - 1)).1) (hr : s = mid ∨ s = m ∨ (L (e - 1)).1 < (L s).1) : Halves (rot L s (m - s) (e - m)) a s mid e b := by
  have low : ∀ c d, a ≤ c → c < s → e ≤ d → d < b → elt (L c) (L d) := fun c d k1 k2 k3 k4 => by
    refine elt_right (hm c d k1 (by omega) (by omega) k4) ?_
    rcases hl with hl | hl | hl
    · omega
    · omega
    · have q1 := h1.le k1 (show c ≤ s - 1 by omega) (by omega)
      have q2 := h2.le (show m ≤ e by omega) k3 k4
      omega
  have high : ∀ d c, m ≤ d → d < e → s ≤ c → c < m → elt (L d) (L c) := fun d c k1 k2 k3 k4 => by
    refine elt_left ?_
    rcases hr with hr | hr | hr
    · omega
    · omega
    · have q1 := h1.le hs k3 k4
      have q2 := h2.le k1 (show d ≤ e - 1 by omega) (by omega)
      omega
  have r0 : ∀ t, t < s → rot L s (m - s) (e - m) t = L t := fun t h => rot_lo _ _ _ _ _ h
  have r1 : ∀ t, s ≤ t → t < mid → rot L s (m - s) (e - m) t = L (t + (m - s)) := fun t k1 k2 => rot_1 _ _ _ _ _ k1 (by omega)
  have r2 : ∀ t, mid ≤ t → t < e → rot L s (m - s) (e - m) t = L (t - (e - m)) := fun t k1 k2 => rot_2 _ _ _ _ _ (by omega) (by omega)
  have r3 : ∀ t, e ≤ t → rot L s (m - s) (e - m) t = L t := fun t h => rot_hi _ _ _ _ _ (by omega)
  refine ⟨fun p q k1 k2 k3 => ?_, fun p q k1 k2 k3 => ?_, fun p q k1 k2 k3 => ?_, fun p q k1 k2 k3 => ?_, fun p q k1 k2 k3 k4 => ?_, fun p q k1 k2 k3 k4 => ?_, fun p q k1 k2 k3 k4 => ?_⟩
  · rw [r0 p (by omega), r0 q k3]; exact h1 p q k1 k2 (by omega)
  · rw [r1 p k1 (by omega), r1 q (by omega) k3]; exact h2 _ _ (by omega) (by omega) (by omega)
  · rw [r2 p k1 (by omega), r2 q (by omega) k3]; exact h1 _ _ (by omega) (by omega) (by omega)
  · rw [r3 p k1, r3 q (by omega)]; exact h2 _ _ (by omega) k2 k3
  · rw [r0 p k2, r1 q k3 k4]; exact hm _ _ k1 (by omega) (by omega) (by omega)
  · rw [r2 p k1 k2, r3 q k3]; exact hm _ _ (by omega) (by omega) (by omega) k4
  · by_cases c1 : p < s
    · rw [r0 p c1]
      by_cases c2 : q < e
      · rw [r2 q k3 c2]; exact h1 _ _ k1 (by omega) (by omega)
      · rw [r3 q (by omega)]; exact low _ _ k1 c1 (by omega) k4
    · rw [r1 p (by omega) k2]
      by_cases c2 : q < e
      · rw [r2 q k3 c2]; exact high _ _ (by omega) (by omega) (by omega) (by omega)
      · rw [r3 q (by omega)]; exact h2 _ _ (by omega) (by omega) k4

/-- The two halves sorted, each by itself. -/
theorem Halves.join {M N R : Nat → E} {a s mid e b : Nat} (h : Halves M a s mid e b) (hab : a ≤ mid) (hmb : mid ≤ b) (h1 : Shuf a mid M N) (h2 : Sorted N a mid) (h3 : Shuf mid b N R) (h4 : Sorted R mid b) : Sorted R a b := by
  intro p q k1 k2 k3
  by_cases c1 : q < mid
  · rw [h3.out (Or.inl (by omega)), h3.out (Or.inl c1)]
    exact h2 p q k1 k2 c1
  · by_cases c2 : p < mid
    · rw [h3.out (i := p) (Or.inl c2)]
      obtain ⟨p', e1, e2, e3⟩ := h1.inn k1 c2
      obtain ⟨q', f1, f2, f3⟩ := h3.inn (show mid ≤ q by omega) k3
      rw [e3, f3, h1.out (Or.inr f1)]
      exact h.cross p' q' e1 e2 f1 f2
    · exact h4 p q (by omega) k2 k3
end Go.Proofs.Ybulkoc
