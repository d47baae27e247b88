import Derived.Test.YbulkocP6
namespace Go.Proofs.Ybulkoc
set_option linter.unusedVariables false
open Go.RowKit

theorem info71 : (Yba.prog.info? 71).map (fun i => (i.zero, i.size, i.bytes)) = some (some (.agg #[.int .i64 0, .bool false, .int .i64 0, .string .empty]), 4, 40) := by kernel_rfl

/-- What 'zzs0028aexpect' keeps of a stop: from, value. -/
def zf (fr : Addr → Int) (s : Int) : Option Addr → Int
  | none => 0
  | some a => s + fr a
def zv (vl : Addr → ByteArray) (pv : ByteArray) : Option Addr → ByteArray
  | none => .empty
  | some a => orS (vl a) pv
def zc (fr : Addr → Int) (vl : Addr → ByteArray) (pv : ByteArray) (s : Int × Option Addr) : List Value := [.int .i64 s.1, .bool s.2.isSome, .int .i64 (zf fr s.1 s.2), .string (zv vl pv s.2)]
def zCells (fr : Addr → Int) (vl : Addr → ByteArray) (pv : ByteArray) (L : List (Int × Option Addr)) : List Value := L.flatMap (zc fr vl pv)
theorem zCells_snoc (fr : Addr → Int) (vl : Addr → ByteArray) (pv : ByteArray) (L : List (Int × Option Addr)) (s : Int × Option Addr) : zCells fr vl pv (L ++ [s]) = zCells fr vl pv L ++ zc fr vl pv s := by simp [zCells]
theorem zCells_len (fr : Addr → Int) (vl : Addr → ByteArray) (pv : ByteArray) (L : List (Int × Option Addr)) : (zCells fr vl pv L).length = L.length * 4 := flat_len _ 4 (fun _ => rfl) L

/-- The stops of 'zzs0028aexpect', in the array at block g. -/
structure Zt (fr : Addr → Int) (vl : Addr → ByteArray) (pv : ByteArray) (w : World) (g n : Nat) (L : Nat → E) : Prop where
  at0 : ∀ i, i < n → w.cell? ⟨g, i * 4, none⟩ = some (.int .i64 (L i).1)
  at1 : ∀ i, i < n → w.cell? ⟨g, i * 4 + 1, none⟩ = some (.bool (L i).2.1.isSome)
  at2 : ∀ i, i < n → w.cell? ⟨g, i * 4 + 2, none⟩ = some (.int .i64 (zf fr (L i).1 (L i).2.1))
  at3 : ∀ i, i < n → w.cell? ⟨g, i * 4 + 3, none⟩ = some (.string (zv vl pv (L i).2.1))
  free : ∀ o, w.frozen? ⟨g, o, none⟩ = false
  lt : g < w.heap.size

section
variable {fr : Addr → Int} {vl : Addr → ByteArray} {pv : ByteArray} {w w' : World} {g n : Nat} {L : Nat → E}

theorem Zt.below {B : Nat} (h : Zt fr vl pv w g n L) (hb : Below B w w') (hg : g < B) : Zt fr vl pv w' g n L :=
  ⟨fun i hi => (hb.cell (p := ⟨g, i * 4, none⟩) hg).trans (h.at0 i hi), fun i hi => (hb.cell (p := ⟨g, i * 4 + 1, none⟩) hg).trans (h.at1 i hi), fun i hi => (hb.cell (p := ⟨g, i * 4 + 2, none⟩) hg).trans (h.at2 i hi), fun i hi => (hb.cell (p := ⟨g, i * 4 + 3, none⟩) hg).trans (h.at3 i hi), fun o => (hb.frozen (p := ⟨g, o, none⟩) hg).trans (h.free o), Nat.lt_of_lt_of_le h.lt hb.size⟩
theorem Zt.grow0 (h : Zt fr vl pv w g n L) (hg : w.grownBy w' none) : Zt fr vl pv w' g n L :=
  h.below (B := w.heap.size) (below_grown (Below.refl _ _) hg (Nat.le_refl _) (fun k hk => by cases hk)) h.lt
theorem Zt.grow {row : Option Nat} (h : Zt fr vl pv w g n L) (hg : w.grownBy w' row) (hne : row ≠ some g) : Zt fr vl pv w' g n L :=
  ⟨fun i hi => (hg.cell_far ⟨g, i * 4, none⟩ h.lt (Ne.symm hne)).trans (h.at0 i hi), fun i hi => (hg.cell_far ⟨g, i * 4 + 1, none⟩ h.lt (Ne.symm hne)).trans (h.at1 i hi), fun i hi => (hg.cell_far ⟨g, i * 4 + 2, none⟩ h.lt (Ne.symm hne)).trans (h.at2 i hi), fun i hi => (hg.cell_far ⟨g, i * 4 + 3, none⟩ h.lt (Ne.symm hne)).trans (h.at3 i hi), fun o => (hg.frozen_far ⟨g, o, none⟩ h.lt (Ne.symm hne)).trans (h.free o), Nat.lt_of_lt_of_le h.lt hg.size⟩
theorem below_set {B o : Nat} {a b : World} {v : Value} (h : Below B a b) (hB : B ≤ a.heap.size) (hg : B ≤ g) : Below B a (b.setCell ⟨g, o, none⟩ v) := below_grown h (World.grownBy.ofSet b g o v) hB (fun k hk => by cases hk; exact hg)
theorem shuf_one {y : Nat} {A M : Nat → E} (h : Shuf 0 y A M) (hy : y ≤ 1) : M = A := by
  funext t
  rcases Nat.lt_or_ge t y with k | k
  · obtain ⟨u, h1, h2, h3⟩ := h.inn (Nat.zero_le t) k
    rw [h3, show u = t by omega]
  · exact h.out (Or.inr k)
theorem Zt.drewN (h : Zt fr vl pv w g n L) (k : Nat) : Zt fr vl pv (w.drewN k) g n L := ⟨h.at0, h.at1, h.at2, h.at3, h.free, h.lt⟩

theorem Zt.set (h : Zt fr vl pv w g n L) (i : Nat) (hi : i < n) (x : E) :
    Zt fr vl pv ((((w.setCell ⟨g, i * 4, none⟩ (.int .i64 x.1)).setCell ⟨g, i * 4 + 1, none⟩ (.bool x.2.1.isSome)).setCell ⟨g, i * 4 + 2, none⟩ (.int .i64 (zf fr x.1 x.2.1))).setCell ⟨g, i * 4 + 3, none⟩ (.string (zv vl pv x.2.1))) g n (fun t => if t = i then x else L t) := by
  have far : ∀ (w0 : World) (o o' : Nat) (v : Value), o ≠ o' → (w0.setCell ⟨g, o', none⟩ v).cell? ⟨g, o, none⟩ = w0.cell? ⟨g, o, none⟩ := fun w0 o o' v hne => World.cell?_setCell_other _ _ _ _ (by simp <;> omega)
  refine ⟨fun t ht => ?_, fun t ht => ?_, fun t ht => ?_, fun t ht => ?_, fun o => by simp; exact h.free o, by simp [World.setCell]; exact h.lt⟩
  · rw [far _ _ _ _ (by omega), far _ _ _ _ (by omega), far _ _ _ _ (by omega)]
    by_cases e : t = i
    · subst e
      rw [World.cell?_setCell_same _ _ _ (h.at0 t ht)]; simp
    · rw [far _ _ _ _ (by omega), h.at0 t ht]; simp [e]
  · rw [far _ _ _ _ (by omega), far _ _ _ _ (by omega)]
    by_cases e : t = i
    · subst e
      rw [World.cell?_setCell_same _ _ _ ((far _ _ _ _ (by omega)).trans (h.at1 t ht))]; simp
    · rw [far _ _ _ _ (by omega), far _ _ _ _ (by omega), h.at1 t ht]; simp [e]
  · rw [far _ _ _ _ (by omega)]
    by_cases e : t = i
    · subst e
      rw [World.cell?_setCell_same _ _ _ ((far _ _ _ _ (by omega)).trans ((far _ _ _ _ (by omega)).trans (h.at2 t ht)))]; simp
    · rw [far _ _ _ _ (by omega), far _ _ _ _ (by omega), far _ _ _ _ (by omega), h.at2 t ht]; simp [e]
  · by_cases e : t = i
    · subst e
      rw [World.cell?_setCell_same _ _ _ ((far _ _ _ _ (by omega)).trans ((far _ _ _ _ (by omega)).trans ((far _ _ _ _ (by omega)).trans (h.at3 t ht))))]; simp
    · rw [far _ _ _ _ (by omega), far _ _ _ _ (by omega), far _ _ _ _ (by omega), far _ _ _ _ (by omega), h.at3 t ht]; simp [e]

theorem set_set (L : Nat → E) (i j : Nat) (hne : i ≠ j) : (fun t => if t = j then L i else (fun t => if t = i then L j else L t) t) = swp L i j := by
  funext t
  simp only [swp]
  by_cases h1 : t = i
  · subst h1; simp [hne]
  · simp [h1]

/-- The stops, as an owned row. -/
theorem zt_of (w : World) (base cap : Nat) (S : List (Int × Option Addr)) (h : w.ownsRow base 71 4 (.slice (some ⟨g, 0, none⟩) S.length cap) S.length (zCells fr vl pv S)) : Zt fr vl pv w g S.length (mk S) := by
  have hl := zCells_len fr vl pv S
  have hh : ∀ i (hi : i < S.length) j (hj : j < 4), (zCells fr vl pv S)[i * 4 + j]? = (zc fr vl pv S[i])[j]? := fun i hi j hj => by
    unfold zCells
    rw [flat_get (zc fr vl pv) 4 (fun _ => rfl) S i j hj, List.getElem?_eq_getElem hi]
    rfl
  have hm : ∀ i (hi : i < S.length), mk S i = (S[i].1, S[i].2, i) := fun i hi => by simp [mk, List.getD, List.getElem?_eq_getElem hi]
  refine ⟨fun i hi => ?_, fun i hi => ?_, fun i hi => ?_, fun i hi => ?_, fun o => h.frozenAt o, (h.lt g rfl).2⟩
  · rw [h.cellAt (i * 4) (by omega), hm i hi]; exact hh i hi 0 (by omega)
  · rw [h.cellAt (i * 4 + 1) (by omega), hm i hi]; exact hh i hi 1 (by omega)
  · rw [h.cellAt (i * 4 + 2) (by omega), hm i hi]; exact hh i hi 2 (by omega)
  · rw [h.cellAt (i * 4 + 3) (by omega), hm i hi]; exact hh i hi 3 (by omega)
end

/-! ### the plain answer of 'zzs0028aexpect' -/
/-- One process: from f, until the next stop. -/
def ex1 (f : Int) (p : ByteArray) (en : Int) : List Pr := if f < en then [(f, en, p)] else []
def headAt : List E → Int
  | [] => longest1
  | e :: _ => e.1
def exs (fr : Addr → Int) (vl : Addr → ByteArray) (pv : ByteArray) : List E → List Pr
  | [] => []
  | e :: L => (if e.2.1.isSome then ex1 (zf fr e.1 e.2.1) (zv vl pv e.2.1) (headAt L) else []) ++ exs fr vl pv L

theorem exs_cons (fr : Addr → Int) (vl : Addr → ByteArray) (pv : ByteArray) (e : E) (L : List E) : exs fr vl pv (e :: L) = (if e.2.1.isSome then ex1 (zf fr e.1 e.2.1) (zv vl pv e.2.1) (headAt L) else []) ++ exs fr vl pv L := rfl

theorem run_ex (fr : Addr → Int) (vl : Addr → ByteArray) (pv : ByteArray) (L : List E) : ∀ (f : Int) (p : ByteArray) (s : Bool), f < longest1 → (∀ e ∈ L, ∀ a, e.2.1 = some a → e.1 + fr a < longest1) → run fr vl pv L f p s = (if s then ex1 f p (headAt L) else []) ++ exs fr vl pv L := by
  induction L with
  | nil =>
    intro f p s hf _
    cases s with
    | true => simp [run, ex1, headAt, exs, hf]
    | false => simp [run, exs]
  | cons e L ih =>
    intro f p s hf he
    have he' : ∀ e ∈ L, ∀ a, e.2.1 = some a → e.1 + fr a < longest1 := fun e' h' => he e' (List.mem_cons_of_mem _ h')
    rw [run_cons, exs_cons]
    have h1 : (if s && decide (f < e.1) then [(f, e.1, p)] else ([] : List Pr)) = if s then ex1 f p (headAt (e :: L)) else [] := by
      cases s <;> by_cases h : f < e.1 <;> simp [ex1, headAt, h]
    rw [h1]
    congr 1
    cases hp : e.2.1 with
    | none => simp only [ih f p false hf he']; simp
    | some a => simp only [ih (e.1 + fr a) (orS (vl a) pv) true (he e (List.mem_cons_self ..) a hp) he']; simp [zf, zv]

theorem headAt_from (L : Nat → E) (k n : Nat) : headAt (from_ L k n) = if k < n then (L k).1 else longest1 := by
  by_cases h : k < n
  · rw [from_cons L k n h, if_pos h]; rfl
  · rw [if_neg h]
    have : from_ L k n = [] := by simp [from_]; omega
    rw [this]; rfl
end Go.Proofs.Ybulkoc
