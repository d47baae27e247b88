import Derived.Test.YbulkocRows
import Derived.WalkKit
import Derived.WalkSpells
import Derived.WalkSmall
import Derived.BigQuiet
import Derived.BigRegion
import Derived.Deep.QuietTactic
import Derived.Deep.RegionWith
import Derived.Deep.RegionLaw
import Derived.Laws.CopyOwn
namespace Go.Proofs.Ybulkoc
set_option linter.unusedVariables false
open Go.RowKit

theorem hide {p : Prop} (h : p) : Hid p := h

theorem wrapN (x : Int) (h0 : -9223372036854775808 ≤ x) (h1 : x ≤ 9223372036854775807) : IntKind.i64.wrap x = x := by
  simp only [IntKind.wrap, IntKind.bits, IntKind.signed, Bool.true_and]
  split
  · rename_i h
    simp at h
    omega
  · rename_i h
    simp at h
    omega

/-- 'cmp.Compare' on numbers. -/
def cmpI (x y : Int) : Int := if x < y then -1 else if y < x then 1 else 0

theorem compare_any (x y : Int) (w : World) : Calls Yba.prog 10 #[.int .i64 x, .int .i64 y] w fun e w' => e = .returned (.int .i64 (cmpI x y)) ∧ w' = w := by
  have hx : (x != x) = false := by simp
  have hy : (y != y) = false := by simp
  by_cases h1 : x < y
  · rw [show cmpI x y = -1 by simp [cmpI, h1]]
    go_enter Yba.func10, Yba.ntmps10
    go_wp2
    go_ret
    exact ⟨rfl, rfl⟩
  · by_cases h2 : y < x
    · rw [show cmpI x y = 1 by simp [cmpI, h1, h2]]
      go_enter Yba.func10, Yba.ntmps10
      go_wp2
      go_ret
      exact ⟨rfl, rfl⟩
    · rw [show cmpI x y = 0 by simp [cmpI, h1, h2]]
      go_enter Yba.func10, Yba.ntmps10
      go_wp2
      go_ret
      exact ⟨rfl, rfl⟩

/-- The comparison of two stops. -/
theorem cmpStop_any (x y : Int) (p q : Option Addr) (w : World) :
    Calls Yba.prog 9 #[.agg #[.int .i64 x, .pointer p], .agg #[.int .i64 y, .pointer q]] w fun e w' => e = .returned (.int .i64 (cmpI x y)) ∧ Below w.heap.size w w' := by
  go_enter Yba.func9, Yba.ntmps9
  go_wp2_with fail
  refine (compare_any x y _).mono ?_
  rintro e w' ⟨rfl, rfl⟩
  go_wp2
  go_ret
  exact ⟨rfl, ((Below.refl _ _).alloc (Nat.le_refl _) _).alloc (by simp) _⟩

/-- A stop: its instant, its restart, and a mark of ours (the place it had when the sort began; it stands in no memory). -/
abbrev E := Int × Option Addr × Nat

/-- The first n stops of the array at block g. -/
structure St (w : World) (g n : Nat) (L : Nat → E) : Prop where
  at0 : ∀ i, i < n → w.cell? ⟨g, i * 2, none⟩ = some (.int .i64 (L i).1)
  at1 : ∀ i, i < n → w.cell? ⟨g, i * 2 + 1, none⟩ = some (.pointer (L i).2.1)
  free : ∀ o, w.frozen? ⟨g, o, none⟩ = false
  lt : g < w.heap.size

/-- Of what was there only block g has turned. -/
structure Oth (g : Nat) (w w' : World) : Prop where
  os : w'.os = w.os
  tape : w'.tape = w.tape
  output : w'.output = w.output
  size : w.heap.size ≤ w'.heap.size
  block : ∀ k, k < w.heap.size → k ≠ g → w'.heap[k]? = w.heap[k]?

theorem Oth.refl (g : Nat) (w : World) : Oth g w w := ⟨rfl, rfl, rfl, Nat.le_refl _, fun _ _ _ => rfl⟩
theorem Oth.trans {g : Nat} {a b c : World} (x : Oth g a b) (y : Oth g b c) : Oth g a c :=
  ⟨y.os.trans x.os, y.tape.trans x.tape, y.output.trans x.output, Nat.le_trans x.size y.size, fun k hk h => (y.block k (Nat.lt_of_lt_of_le hk x.size) h).trans (x.block k hk h)⟩
theorem Oth.ofBelow {g : Nat} {w w' : World} (b : Below w.heap.size w w') : Oth g w w' := ⟨b.os, b.tape, b.output, b.size, fun k hk _ => b.block k hk⟩
theorem Oth.setCell (g o : Nat) (v : Value) (w : World) : Oth g w (w.setCell ⟨g, o, none⟩ v) := ⟨rfl, rfl, rfl, by simp [World.setCell], fun k _ h => Below.heap_setCell _ _ _ _ h⟩
theorem Oth.drew {g : Nat} {a w : World} (h : Oth g a w) : Oth g a w.drew := ⟨h.os, h.tape, h.output, h.size, h.block⟩
theorem Oth.below {g B : Nat} {w w' : World} (x : Oth g w w') (h1 : B ≤ g) (h2 : B ≤ w.heap.size) : Below B w w' := ⟨x.os, x.tape, x.output, x.size, fun k hk => x.block k (by omega) (by omega)⟩

theorem St.below {w w' : World} {B g n : Nat} {L : Nat → E} (h : St w g n L) (hb : Below B w w') (hg : g < B) : St w' g n L :=
  ⟨fun i hi => (hb.cell (p := ⟨g, i * 2, none⟩) hg).trans (h.at0 i hi), fun i hi => (hb.cell (p := ⟨g, i * 2 + 1, none⟩) hg).trans (h.at1 i hi), fun o => (hb.frozen (p := ⟨g, o, none⟩) hg).trans (h.free o), Nat.lt_of_lt_of_le h.lt hb.size⟩
theorem St.drew {w : World} {g n : Nat} {L : Nat → E} (h : St w g n L) : St w.drew g n L := ⟨h.at0, h.at1, h.free, h.lt⟩

/-- Two elements change places. -/
def swp (L : Nat → E) (i j : Nat) : Nat → E := fun t => if t = i then L j else if t = j then L i else L t

theorem St.set {w : World} {g n : Nat} {L : Nat → E} (h : St w g n L) (i : Nat) (hi : i < n) (x : E) :
    St ((w.setCell ⟨g, i * 2, none⟩ (.int .i64 x.1)).setCell ⟨g, i * 2 + 1, none⟩ (.pointer x.2.1)) g n (fun t => if t = i then x else L t) := by
  refine ⟨fun t ht => ?_, fun t ht => ?_, fun o => by simp; exact h.free o, by simp [World.setCell]; exact h.lt⟩
  · rw [World.cell?_setCell_other _ _ _ _ (by simp <;> omega)]
    by_cases e : t = i
    · subst e
      rw [World.cell?_setCell_same _ _ _ (h.at0 t ht)]; simp
    · rw [World.cell?_setCell_other _ _ _ _ (by simp <;> omega), h.at0 t ht]; simp [e]
  · by_cases e : t = i
    · subst e
      rw [World.cell?_setCell_same _ _ _ ((World.cell?_setCell_other _ _ _ _ (by simp)).trans (h.at1 t ht))]; simp
    · rw [World.cell?_setCell_other _ _ _ _ (by simp <;> omega), World.cell?_setCell_other _ _ _ _ (by simp <;> omega), h.at1 t ht]; simp [e]

theorem St.swap {w : World} {g n : Nat} {L : Nat → E} (h : St w g n L) (i j : Nat) (hi : i < n) (hj : j < n) (hne : i ≠ j) :
    St ((((w.setCell ⟨g, i * 2, none⟩ (.int .i64 (L j).1)).setCell ⟨g, i * 2 + 1, none⟩ (.pointer (L j).2.1)).setCell ⟨g, j * 2, none⟩ (.int .i64 (L i).1)).setCell ⟨g, j * 2 + 1, none⟩ (.pointer (L i).2.1)) g n (swp L i j) := by
  have h2 := (h.set i hi (L j)).set j hj (L i)
  have e : (fun t => if t = j then L i else (fun t => if t = i then L j else L t) t) = swp L i j := by
    funext t
    simp only [swp]
    by_cases h1 : t = i
    · subst h1; simp [hne]
    · simp [h1]
  rw [e] at h2
  exact h2
end Go.Proofs.Ybulkoc
