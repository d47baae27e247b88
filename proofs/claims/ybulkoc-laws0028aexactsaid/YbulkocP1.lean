import Derived.Test.YbulkocR
namespace Go.Proofs.Ybulkoc
set_option linter.unusedVariables false
open Go.RowKit

def upd {α : Type} (f : Nat → α) (i : Nat) (x : α) : Nat → α := fun t => if t = i then x else f t
theorem upd_same {α : Type} (f : Nat → α) (i : Nat) (x : α) : upd f i x i = x := by simp [upd]
theorem upd_other {α : Type} (f : Nat → α) {i t : Nat} (x : α) (h : t ≠ i) : upd f i x t = f t := by simp [upd, h]

/-- A block gs of m slices, each of which owns its row (element type e, size cells an element) at or above base; the rows lie apart. -/
structure Fam (w : World) (base gs m e size : Nat) (V : Nat → Value) (n : Nat → Nat) (X : Nat → List Value) : Prop where
  at_ : ∀ i, i < m → w.cell? ⟨gs, i, none⟩ = some (V i)
  free : ∀ o, w.frozen? ⟨gs, o, none⟩ = false
  lt : gs < w.heap.size
  own : ∀ i, i < m → w.ownsRow base e size (V i) (n i) (X i)
  apart : ∀ i j, i < m → j < m → i ≠ j → ∀ b, (V i).ownBlock = some b → (V j).ownBlock ≠ some b
  notgs : ∀ i, i < m → (V i).ownBlock ≠ some gs

theorem Fam.grow {w w' : World} {base gs m e size : Nat} {V : Nat → Value} {n : Nat → Nat} {X : Nat → List Value} {row : Option Nat} (h : Fam w base gs m e size V n X) (hg : w.grownBy w' row)
    (hr : row ≠ some gs) (hv : ∀ i, i < m → (V i).ownBlock = none ∨ (V i).ownBlock ≠ row) : Fam w' base gs m e size V n X :=
  ⟨fun i hi => (hg.cell_far ⟨gs, i, none⟩ h.lt (Ne.symm hr)).trans (h.at_ i hi), fun o => (hg.frozen_far ⟨gs, o, none⟩ h.lt (Ne.symm hr)).trans (h.free o), Nat.lt_of_lt_of_le h.lt hg.size,
    fun i hi => (h.own i hi).kept hg (hv i hi), h.apart, h.notgs⟩
theorem Fam.grow0 {w w' : World} {base gs m e size : Nat} {V : Nat → Value} {n : Nat → Nat} {X : Nat → List Value} (h : Fam w base gs m e size V n X) (hg : w.grownBy w' none) : Fam w' base gs m e size V n X :=
  h.grow hg (by simp) (fun i _ => Classical.em _)

/-- Slice number i has been appended to and stored back. -/
theorem Fam.put {w w' : World} {base gs m e size : Nat} {V : Nat → Value} {n : Nat → Nat} {X : Nat → List Value} (h : Fam w base gs m e size V n X) {i : Nat} (hi : i < m)
    (hg : w.grownBy w' (V i).ownBlock) {g c k : Nat} {xs : List Value} (hat : (V i).ownBlock = some g ∨ w.heap.size ≤ g) (ho : w'.ownsRow base e size (.slice (some ⟨g, 0, none⟩) k c) k xs) :
    Fam (w'.setCell ⟨gs, i, none⟩ (.slice (some ⟨g, 0, none⟩) k c)) base gs m e size (upd V i (.slice (some ⟨g, 0, none⟩) k c)) (upd n i k) (upd X i xs) := by
  have hgs : ∀ j, j < m → ∀ b, (V j).ownBlock = some b → b < w.heap.size := fun j hj b hb => ((h.own j hj).lt b hb).2
  have hne : (V i).ownBlock ≠ some gs := h.notgs i hi
  have hggs : g ≠ gs := by
    rcases hat with k1 | k1
    · intro e1; rw [e1] at k1; exact hne k1
    · have := h.lt; omega
  have hs := World.grownBy.ofSet w' gs i (.slice (some ⟨g, 0, none⟩) k c)
  have hc0 : ∀ o v, w.cell? ⟨gs, o, none⟩ = some v → w'.cell? ⟨gs, o, none⟩ = some v := fun o v hv => (hg.cell_far ⟨gs, o, none⟩ h.lt (Ne.symm hne)).trans hv
  refine ⟨fun j hj => ?_, fun o => ?_, ?_, fun j hj => ?_, fun j l hj hl hjl b hb => ?_, fun j hj => ?_⟩
  · by_cases e1 : j = i
    · subst e1
      rw [upd_same, World.cell?_setCell_same _ _ _ (hc0 j _ (h.at_ j hj))]
    · rw [upd_other _ _ e1, World.cell?_setCell_other _ _ _ _ (by simp <;> omega)]
      exact hc0 j _ (h.at_ j hj)
  · simp
    exact (hg.frozen_far ⟨gs, o, none⟩ h.lt (Ne.symm hne)).trans (h.free o)
  · have := hs.size
    have := hg.size
    have := h.lt
    omega
  · by_cases e1 : j = i
    · subst e1
      rw [upd_same, upd_same, upd_same]
      exact ho.kept hs (Or.inr (by simp [Value.ownBlock]; exact hggs))
    · rw [upd_other _ _ e1, upd_other _ _ e1, upd_other _ _ e1]
      refine ((h.own j hj).kept hg ?_).kept hs (Or.inr (h.notgs j hj))
      cases hv : (V j).ownBlock with
      | none => exact Or.inl rfl
      | some b => exact Or.inr (fun e2 => h.apart j i hj hi e1 b hv e2.symm)
  · by_cases e1 : j = i
    · subst e1
      rw [upd_same] at hb
      rw [upd_other _ _ (Ne.symm hjl)]
      have hb' : g = b := by simpa [Value.ownBlock] using hb
      subst hb'
      intro e2
      rcases hat with k1 | k1
      · exact h.apart j l hj hl hjl g k1 e2
      · have := hgs l hl g e2; omega
    · rw [upd_other _ _ e1] at hb
      by_cases e2 : l = i
      · subst e2
        rw [upd_same]
        intro e3
        have hb' : g = b := by simpa [Value.ownBlock] using e3
        subst hb'
        rcases hat with k1 | k1
        · exact h.apart j l hj hl hjl g hb k1
        · have := hgs j hj g hb; omega
      · rw [upd_other _ _ e2]
        exact h.apart j l hj hl hjl b hb
  · by_cases e1 : j = i
    · subst e1
      rw [upd_same]
      simp [Value.ownBlock]
      exact hggs
    · rw [upd_other _ _ e1]; exact h.notgs j hj
end Go.Proofs.Ybulkoc
