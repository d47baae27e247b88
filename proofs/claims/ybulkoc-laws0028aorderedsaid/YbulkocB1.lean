import Derived.Test.YbulkocS9
import Derived.Deep.AppendLies
import Derived.Deep.DrawnRows
import Derived.Deep.Onto
import Derived.Laws.OwnMore
import Derived.OwnWalk
import Derived.Maps.RangeWalk
namespace Go.Proofs.Ybulkoc
set_option linter.unusedVariables false
open Go.RowKit

/-- The Crashes that came in. -/
structure InC (w : World) (a : Option Addr) (n : Nat) (C : List (Int × Int)) : Prop where
  size : C.length = n
  at0 : 0 < n → ∃ b off, a = some ⟨b, off, none⟩ ∧ b < w.heap.size ∧ ∀ i, i < n → w.cell? ⟨b, off + i * 2, none⟩ = some (.int .u8 (C.getD i (0, 0)).1) ∧ w.cell? ⟨b, off + i * 2 + 1, none⟩ = some (.int .i16 (C.getD i (0, 0)).2)
  rng : ∀ i, 0 ≤ (C.getD i (0, 0)).1 ∧ (C.getD i (0, 0)).1 ≤ 255 ∧ -32768 ≤ (C.getD i (0, 0)).2 ∧ (C.getD i (0, 0)).2 ≤ 32767

/-- A run of rows of k cells each. -/
theorem flat_get {α : Type} (f : α → List Value) (k : Nat) (hk : ∀ a, (f a).length = k) (L : List α) (i j : Nat) (hj : j < k) : (L.flatMap f)[i * k + j]? = (L[i]?).bind fun a => (f a)[j]? := by
  induction L generalizing i with
  | nil => simp
  | cons a L ih =>
    rw [List.flatMap_cons]
    cases i with
    | zero => simp [List.getElem?_append, hk, hj]
    | succ i =>
      rw [List.getElem?_append_right (by rw [hk, Nat.add_mul]; omega), hk, show (i + 1) * k + j - k = i * k + j by rw [Nat.add_mul]; omega, ih]
      simp
theorem flat_len {α : Type} (f : α → List Value) (k : Nat) (hk : ∀ a, (f a).length = k) (L : List α) : (L.flatMap f).length = L.length * k := by
  induction L with
  | nil => simp
  | cons a L ih => rw [List.flatMap_cons, List.length_append, ih, hk, List.length_cons, Nat.add_mul]; omega

theorem World.grownBy.ofSet (w : World) (g o : Nat) (v : Value) : w.grownBy (w.setCell ⟨g, o, none⟩ v) (some g) := ⟨rfl, rfl, rfl, by simp [World.setCell], fun k _ h => Below.heap_setCell _ _ _ _ (by simpa using h)⟩
theorem grown_alloc (w : World) (o : Obj) (row : Option Nat) : w.grownBy (w.alloc o) row := ⟨rfl, rfl, rfl, by simp, fun k h _ => Below.heap_alloc _ _ _ h⟩
theorem grown_drew (w : World) (row : Option Nat) : w.grownBy w.drew row := ⟨rfl, rfl, rfl, Nat.le_refl _, fun _ _ _ => rfl⟩
theorem below_grown {B : Nat} {w a b : World} {row : Option Nat} (h : Below B w a) (hg : a.grownBy b row) (hB : B ≤ w.heap.size) (hr : ∀ k, row = some k → B ≤ k) : Below B w b :=
  ⟨hg.os.trans h.os, hg.tape.trans h.tape, hg.output.trans h.output, Nat.le_trans h.size hg.size, fun k hk => (hg.block k (Nat.lt_of_lt_of_le (Nat.lt_of_lt_of_le hk hB) h.size) (fun e => by have := hr k e.symm; omega)).trans (h.block k hk)⟩

theorem alloc_cell {w : World} {a : Addr} {o : Obj} {v : Value} (h : w.cell? a = some v) : (w.alloc o).drew.cell? a = some v :=
  (World.cell?_alloc_some w a o (by rw [h]; rfl)).trans h
theorem alloc_frozen {w : World} {a : Addr} {o : Obj} (h : w.frozen? a = false) (hlt : a.block < w.heap.size) : (w.alloc o).drew.frozen? a = false :=
  ((grown_alloc w o none).frozen_far a hlt (by simp)).trans h
theorem alloc_frozen' {w : World} {a : Addr} {o : Obj} (h : w.frozen? a = false) (hlt : a.block < w.heap.size) : (w.alloc o).frozen? a = false :=
  ((grown_alloc w o none).frozen_far a hlt (by simp)).trans h
/-- A block of cells, whole. -/
def Row (w : World) (g : Nat) (t : TypeId) (cs : List Value) : Prop := w.heap[g]? = some (.cells cs.toArray t (0, 0))
theorem Row.lt {w : World} {g : Nat} {t : TypeId} {cs : List Value} (h : Row w g t cs) : g < w.heap.size := (Array.getElem?_eq_some_iff.1 h).1
theorem Row.cell {w : World} {g : Nat} {t : TypeId} {cs : List Value} (h : Row w g t cs) {o : Nat} {v : Value} (hv : cs[o]? = some v) : w.cell? ⟨g, o, none⟩ = some v := by
  simp [World.cell?, show w.heap[g]? = _ from h, hv]
theorem Row.frozen {w : World} {g : Nat} {t : TypeId} {cs : List Value} (h : Row w g t cs) (o : Nat) : w.frozen? ⟨g, o, none⟩ = false := by
  simp [World.frozen?, show w.heap[g]? = _ from h]
theorem Row.set {w : World} {g : Nat} {t : TypeId} {cs : List Value} (h : Row w g t cs) (o : Nat) (v : Value) : Row (w.setCell ⟨g, o, none⟩ v) g t (cs.set o v) := by
  have h' : w.heap[g]? = _ := h
  show (w.setCell _ _).heap[g]? = _
  rw [setCell_eq_setRow w g o _ _ _ _ h', setRow_heap w g _ _ _ _ h']
  simp
theorem Row.grown {w w' : World} {g : Nat} {t : TypeId} {cs : List Value} {row : Option Nat} (h : Row w g t cs) (hg : w.grownBy w' row) (hne : row ≠ some g) : Row w' g t cs :=
  (hg.block g h.lt (Ne.symm hne)).trans h
theorem Row.new (w : World) (t : TypeId) (cs : List Value) : Row (w.alloc (.cells cs.toArray t)) w.heap.size t cs := by
  show (w.heap.push _)[w.heap.size]? = _
  simp

theorem run_store_float (P : Program) (w : World) (a : Addr) (k : FloatKind) (b : Nat) (m : Mode) (hc : (w.cell? a).isSome = true) (hf : w.frozen? a = false) : (store a (.float k b) m).run P w = .ok () (w.setCell a (.float k b)) := by
  obtain ⟨v, hv⟩ := Option.isSome_iff_exists.1 hc
  rw [run_store P w a (.float k b) m rfl, hv, hf]
  rfl
theorem run_store_nilFunc (P : Program) (w : World) (a : Addr) (m : Mode) (hc : (w.cell? a).isSome = true) (hf : w.frozen? a = false) : (store a .nilFunc m).run P w = .ok () (w.setCell a .nilFunc) := by
  obtain ⟨v, hv⟩ := Option.isSome_iff_exists.1 hc
  rw [run_store P w a .nilFunc m rfl, hv, hf]
  rfl


/-- The Restarts that came in. -/
structure InR (w : World) (a : Option Addr) (n : Nat) (R : List (Int × Int × Int × ByteArray)) : Prop where
  size : R.length = n
  at0 : 0 < n → ∃ b off, a = some ⟨b, off, none⟩ ∧ b < w.heap.size ∧ ∀ i, i < n → w.cell? ⟨b, off + i * 4, none⟩ = some (.int .u8 (R.getD i (0, 0, 0, .empty)).1) ∧ w.cell? ⟨b, off + i * 4 + 1, none⟩ = some (.int .i16 (R.getD i (0, 0, 0, .empty)).2.1) ∧ w.cell? ⟨b, off + i * 4 + 2, none⟩ = some (.int .i16 (R.getD i (0, 0, 0, .empty)).2.2.1) ∧ w.cell? ⟨b, off + i * 4 + 3, none⟩ = some (.string (R.getD i (0, 0, 0, .empty)).2.2.2)
  rng : ∀ i, 0 ≤ (R.getD i (0, 0, 0, .empty)).1 ∧ (R.getD i (0, 0, 0, .empty)).1 ≤ 255 ∧ -32768 ≤ (R.getD i (0, 0, 0, .empty)).2.1 ∧ (R.getD i (0, 0, 0, .empty)).2.1 ≤ 32767 ∧ -32768 ≤ (R.getD i (0, 0, 0, .empty)).2.2.1 ∧ (R.getD i (0, 0, 0, .empty)).2.2.1 ≤ 32767

/-- A Config's cells: its members, its crashes, its restarts; the rest as it was made. -/
def cfgCells (m : Int) (vC vR : Value) : List Value :=
  [.int .i64 m, .int .i64 0, .int .u64 0, .int .i64 0, .int .u8 0, .int .i64 0, .int .i64 0, .float .f64 0, .slice none 0 0, vC, .slice none 0 0, vR, .nilFunc, .pointer none, .pointer none, .bool false]
/-- A Crash of the Config out of one that came in. -/
def mkC (m : Int) (c : Int × Int) : Int × Int := (c.1 % m + 1, c.2)
def crCells (C : List (Int × Int)) : List Value := C.flatMap fun c => [.int .i64 c.1, .int .i64 c.2]
theorem crCells_snoc (C : List (Int × Int)) (c : Int × Int) : crCells (C ++ [c]) = crCells C ++ [.int .i64 c.1, .int .i64 c.2] := by simp [crCells]
/-- A Restart of the Config out of one that came in. -/
def mkR (m : Int) (nn : Bool) (r : Int × Int × Int × ByteArray) : Int × Int × Int × ByteArray := (r.1 % m + 1, r.2.1, if nn then r.2.2.1 % 65536 else r.2.2.1, r.2.2.2)
def rsCells (R : List (Int × Int × Int × ByteArray)) : List Value := R.flatMap fun r => [.int .i64 r.1, .int .i64 r.2.1, .int .i64 r.2.2.1, .string r.2.2.2]
theorem rsCells_snoc (R : List (Int × Int × Int × ByteArray)) (r : Int × Int × Int × ByteArray) : rsCells (R ++ [r]) = rsCells R ++ [.int .i64 r.1, .int .i64 r.2.1, .int .i64 r.2.2.1, .string r.2.2.2] := by simp [rsCells]
theorem take_snoc {α : Type} (C : List α) (i : Nat) (d : α) (h : i < C.length) : C.take (i + 1) = C.take i ++ [C.getD i d] := by
  rw [List.take_succ_eq_append_getElem h, List.getD, List.getElem?_eq_getElem h]
  rfl

/-- The Config that is being built, at N + 1; the result's place at N. -/
structure Cfg (w wr : World) (m : Int) (vC vR : Value) : Prop where
  row : Row wr (w.heap.size + 1) 39 (cfgCells m vC vR)
  zero : Row wr w.heap.size 39 (cfgCells 0 (.slice none 0 0) (.slice none 0 0))
  below : Below w.heap.size w wr
theorem Cfg.grow {w a b : World} {m : Int} {vC vR : Value} {row : Option Nat} (h : Cfg w a m vC vR) (hg : a.grownBy b row) (hr : ∀ k, row = some k → w.heap.size + 2 ≤ k) : Cfg w b m vC vR :=
  ⟨h.row.grown hg (fun e => by have := hr _ e; omega), h.zero.grown hg (fun e => by have := hr _ e; omega), below_grown h.below hg (Nat.le_refl _) (fun k hk => by have := hr _ hk; omega)⟩
theorem Cfg.setC {w a : World} {m : Int} {vC vR : Value} (h : Cfg w a m vC vR) (v : Value) : Cfg w (a.setCell ⟨w.heap.size + 1, 9, none⟩ v) m v vR :=
  ⟨h.row.set 9 v, h.zero.grown (World.grownBy.ofSet a _ 9 v) (by simp), below_grown h.below (World.grownBy.ofSet a _ 9 v) (Nat.le_refl _) (fun k hk => by cases hk; omega)⟩
theorem Cfg.setR {w a : World} {m : Int} {vC vR : Value} (h : Cfg w a m vC vR) (v : Value) : Cfg w (a.setCell ⟨w.heap.size + 1, 11, none⟩ v) m vC v :=
  ⟨h.row.set 11 v, h.zero.grown (World.grownBy.ofSet a _ 11 v) (by simp), below_grown h.below (World.grownBy.ofSet a _ 11 v) (Nat.le_refl _) (fun k hk => by cases hk; omega)⟩

theorem info56 : (Yba.prog.info? 56).map (fun i => (i.zero, i.size, i.bytes)) = some (some (.agg #[.int .i64 0, .int .i64 0]), 2, 16) := by kernel_rfl
theorem info51 : (Yba.prog.info? 51).map (fun i => (i.zero, i.size, i.bytes)) = some (some (.agg #[.int .i64 0, .int .i64 0, .int .i64 0, .string .empty]), 4, 40) := by kernel_rfl
end Go.Proofs.Ybulkoc
