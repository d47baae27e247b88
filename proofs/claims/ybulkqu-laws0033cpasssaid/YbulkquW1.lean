import Derived.Test.YbulkquRows
import Derived.WalkKit
import Derived.WalkSpells
import Derived.WalkSmall
import Derived.BigQuiet
import Derived.BigRegion
import Derived.Deep.QuietTactic
import Derived.Deep.RegionWith
import Derived.Deep.RegionLaw
import Derived.Laws.CopyOwn
namespace Go.Proofs.Ybulkqu
set_option linter.unusedVariables false
open Go.RowKit

theorem hide {p : Prop} (h : p) : Hid p := h

/-- A block of cells, whole: its cells 'cs', its type 't', nothing frozen. -/
def Row (w : World) (g : Nat) (t : TypeId) (cs : List Value) : Prop := w.heap[g]? = some (.cells cs.toArray t (0, 0))

theorem Row.lt {w : World} {g : Nat} {t : TypeId} {cs : List Value} (h : Row w g t cs) : g < w.heap.size := (Array.getElem?_eq_some_iff.1 h).1
theorem Row.cell {w : World} {g : Nat} {t : TypeId} {cs : List Value} (h : Row w g t cs) {o : Nat} {v : Value} (hv : cs[o]? = some v) : w.cell? ⟨g, o, none⟩ = some v := by
  simp [World.cell?, show w.heap[g]? = _ from h, hv]
theorem Row.frozen {w : World} {g : Nat} {t : TypeId} {cs : List Value} (h : Row w g t cs) (o : Nat) : w.frozen? ⟨g, o, none⟩ = false := by
  simp [World.frozen?, show w.heap[g]? = _ from h]
theorem Row.below {w w' : World} {B g : Nat} {t : TypeId} {cs : List Value} (h : Row w g t cs) (hb : Below B w w') (hg : g < B) : Row w' g t cs := (hb.block g hg).trans h
theorem Row.set {w : World} {g : Nat} {t : TypeId} {cs : List Value} (h : Row w g t cs) (o : Nat) (v : Value) : Row (w.setCell ⟨g, o, none⟩ v) g t (cs.set o v) := by
  have h' : w.heap[g]? = _ := h
  show (w.setCell _ _).heap[g]? = _
  rw [setCell_eq_setRow w g o _ _ _ _ h', setRow_heap w g _ _ _ _ h']
  simp
theorem Row.setOther {w : World} {g : Nat} {t : TypeId} {cs : List Value} (h : Row w g t cs) (a : Addr) (v : Value) (hne : g ≠ a.block) : Row (w.setCell a v) g t cs := by
  show (w.setCell _ _).heap[g]? = _
  rw [Below.heap_setCell _ _ _ _ hne]; exact h
theorem Row.alloc {w : World} {g : Nat} {t : TypeId} {cs : List Value} (h : Row w g t cs) (o : Obj) : Row (w.alloc o) g t cs := by
  show (w.alloc o).heap[g]? = _
  rw [Below.heap_alloc _ _ _ h.lt]; exact h
theorem Row.drew {w : World} {g : Nat} {t : TypeId} {cs : List Value} (h : Row w g t cs) : Row w.drew g t cs := h
theorem Row.drewN {w : World} {g : Nat} {t : TypeId} {cs : List Value} (h : Row w g t cs) (n : Nat) : Row (w.drewN n) g t cs := h
theorem Row.new (w : World) (t : TypeId) (cs : List Value) : Row (w.alloc (.cells cs.toArray t)) w.heap.size t cs := by
  show (w.heap.push _)[w.heap.size]? = _
  simp

/-- 'cmp.Compare' on numbers. -/
def cmpI (x y : Int) : Int := if x < y then -1 else if y < x then 1 else 0

theorem compare_any (x y : Int) (w : World) : Calls Yba.prog 10 #[.int .u64 x, .int .u64 y] w fun e w' => e = .returned (.int .i64 (cmpI x y)) ∧ w' = w := by
  have hx : (x != x) = false := by simp
  have hy : (y != y) = false := by simp
  by_cases h1 : x < y
  · rw [show cmpI x y = -1 by simp [cmpI, h1]]
    go_enter Yba.func10, Yba.ntmps10
    go_wp2
    go_ret
    exact ⟨rfl, rfl⟩
  · by_cases h2 : y < x
    · rw [show cmpI x y = 1 by simp [cmpI, h1, h2]]
      go_enter Yba.func10, Yba.ntmps10
      go_wp2
      go_ret
      exact ⟨rfl, rfl⟩
    · rw [show cmpI x y = 0 by simp [cmpI, h1, h2]]
      go_enter Yba.func10, Yba.ntmps10
      go_wp2
      go_ret
      exact ⟨rfl, rfl⟩

theorem bySeq_any (s q c y : Int) (pl : Value) (hpl : pl = .slice none 0 0) (w : World) :
    Calls Yba.prog 9 #[.agg #[.int .i64 s, .int .u64 q, pl, .int .u64 c], .int .u64 y] w fun e w' => e = .returned (.int .i64 (cmpI q y)) ∧ Below w.heap.size w w' := by
  subst hpl
  go_enter Yba.func9, Yba.ntmps9
  go_wp2_with fail
  refine (compare_any q y _).mono ?_
  rintro e w' ⟨rfl, rfl⟩
  go_wp2
  go_ret
  exact ⟨rfl, (Below.refl _ _).alloc (Nat.le_refl _) _⟩
end Go.Proofs.Ybulkqu
