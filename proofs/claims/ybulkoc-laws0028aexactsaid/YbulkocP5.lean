import Derived.Test.YbulkocP4
namespace Go.Proofs.Ybulkoc
set_option linter.unusedVariables false
set_option linter.unusedSimpArgs false
open Go.RowKit

theorem own_below {w w' : World} {B base e size n : Nat} {v : Value} {xs : List Value} (h : w.ownsRow base e size v n xs) (hb : Below B w w') (hv : ∀ b, v.ownBlock = some b → b < B) : w'.ownsRow base e size v n xs := by
  refine ⟨h.1, ?_⟩
  rcases h.2 with h2 | ⟨g, cap, cur, h1, h2, h3, h4⟩
  · exact Or.inl h2
  · exact Or.inr ⟨g, cap, cur, h1, h2, (hb.block g (hv g (by rw [h1]; rfl))).trans h3, h4⟩

/-- What holds of the stops' slices in every world of the third loop. -/
structure Stat (N G m : Nat) (V : Nat → Value) : Prop where
  apart : ∀ i j, i < m → j < m → i ≠ j → ∀ b, (V i).ownBlock = some b → (V j).ownBlock ≠ some b
  notgs : ∀ i, i < m → (V i).ownBlock ≠ some (N + 1)
  lo : ∀ i, i < m → ∀ b, (V i).ownBlock = some b → N + 1 ≤ b ∧ b < G
  lt : N + 1 < G

/-- The third loop at i: the stops from i on as they were; the processes made so far. -/
structure L3 (wB wr : World) (N G m : Nat) (V VA : Nat → Value) (SL : Nat → List (Int × Option Addr)) (PR : Nat → List Pr) (i : Nat) : Prop where
  below : Below (N + 1) wB wr
  st : ∀ t, i ≤ t → t < m → wr.cell? ⟨N + 1, t, none⟩ = some (V t) ∧ wr.ownsRow (N + 1) 64 2 (V t) (SL t).length (stCells (SL t))
  fam : Fam wr G G m 48 3 VA (fun t => (PR t).length) (fun t => prCells (PR t))

theorem L3.sorted {wB wr w' : World} {N G m : Nat} {V VA : Nat → Value} {SL : Nat → List (Int × Option Addr)} {PR : Nat → List Pr} {i : Nat} (h : L3 wB wr N G m V VA SL PR i) (s : Stat N G m V) (hi : i < m) (hB : wB.heap.size = N + 1)
    (hg : wr.grownBy w' (V i).ownBlock) : L3 wB w' N G m V VA SL PR (i + 1) := by
  refine ⟨below_grown h.below hg (by omega) (fun k hk => (s.lo i hi k hk).1), fun t ht htm => ?_, h.fam.grow hg (fun e => ?_) (fun t ht => ?_)⟩
  · obtain ⟨h1, h2⟩ := h.st t (by omega) htm
    refine ⟨(hg.cell_far ⟨N + 1, t, none⟩ ?_ (Ne.symm (s.notgs i hi))).trans h1, h2.kept hg ?_⟩
    · have := h.below.size
      have := s.lt
      have := h.fam.lt
      show N + 1 < _
      omega
    · cases hv : (V t).ownBlock with
      | none => exact Or.inl rfl
      | some b => exact Or.inr (fun e => s.apart t i htm hi (by omega) b hv e.symm)
  · have := (s.lo i hi G e).2
    omega
  · cases hv : (VA t).ownBlock with
    | none => exact Or.inl rfl
    | some b =>
      refine Or.inr (fun e => ?_)
      have h1 := ((h.fam.own t ht).lt b hv).1
      have h2 := (s.lo i hi b e.symm).2
      omega

theorem L3.moved {wB w' wr : World} {N G m : Nat} {V VA VA' : Nat → Value} {SL : Nat → List (Int × Option Addr)} {PR PR' : Nat → List Pr} {i : Nat} (h : L3 wB w' N G m V VA SL PR i) (s : Stat N G m V)
    (hb : Below G w' wr) (hf : Fam wr G G m 48 3 VA' (fun t => (PR' t).length) (fun t => prCells (PR' t))) : L3 wB wr N G m V VA' SL PR' i := by
  refine ⟨h.below.trans (hb.mono (Nat.le_of_lt s.lt)), fun t ht htm => ?_, hf⟩
  obtain ⟨h1, h2⟩ := h.st t ht htm
  exact ⟨(hb.cell (p := ⟨N + 1, t, none⟩) s.lt).trans h1, own_below h2 hb (fun b hv => (s.lo t htm b hv).2)⟩

theorem fam_pr {w : World} {base gs m id k : Nat} {VA : Nat → Value} {v : Value} {PR : Nat → List Pr} {c : List Pr} {x : Pr} {xs : List Value}
    (h : Fam w base gs m 48 3 (upd VA id v) (upd (fun t => (upd PR id c t).length) id k) (upd (fun t => prCells (upd PR id c t)) id xs)) (hk : k = c.length + 1) (hx : xs = prCells c ++ [.int .i64 x.1, .int .i64 x.2.1, .string x.2.2]) :
    Fam w base gs m 48 3 (upd VA id v) (fun t => (upd PR id (c ++ [x]) t).length) (fun t => prCells (upd PR id (c ++ [x]) t)) := by
  have e1 : upd (fun t => (upd PR id c t).length) id k = fun t => (upd PR id (c ++ [x]) t).length := by
    funext t
    by_cases e : t = id
    · subst e; rw [upd_same, upd_same, hk]; simp
    · rw [upd_other _ _ e, upd_other _ _ e, upd_other _ _ e]
  have e2 : upd (fun t => prCells (upd PR id c t)) id xs = fun t => prCells (upd PR id (c ++ [x]) t) := by
    funext t
    by_cases e : t = id
    · subst e; rw [upd_same, upd_same, hx, prCells_snoc]
    · rw [upd_other _ _ e, upd_other _ _ e, upd_other _ _ e]
  rw [e1, e2] at h
  exact h

/-- The sorted stops from k on. -/
def from_ (L : Nat → E) (k n : Nat) : List E := ((List.range n).drop k).map L
theorem from_end (L : Nat → E) (n : Nat) : from_ L n n = [] := by simp [from_]
theorem from_cons (L : Nat → E) (k n : Nat) (h : k < n) : from_ L k n = L k :: from_ L (k + 1) n := by
  unfold from_
  rw [List.drop_eq_getElem_cons (by simpa using h)]
  simp

/-- A restart's For and Value, by the address of its record. -/
def frOf (RL : List (Int × Int × Int × ByteArray)) (a : Addr) : Int := (RL.getD (a.off / 4) (0, 0, 0, .empty)).2.2.1
def vlOf (RL : List (Int × Int × Int × ByteArray)) (a : Addr) : ByteArray := (RL.getD (a.off / 4) (0, 0, 0, .empty)).2.2.2

/-- What the processes of a member are: the run over a stable sorting of its stops. -/
def Made (fr : Addr → Int) (vl : Addr → ByteArray) (PV : Nat → ByteArray) (SL : Nat → List (Int × Option Addr)) (t : Nat) (P : List Pr) : Prop :=
  ∃ L', Shuf 0 (SL t).length (mk (SL t)) L' ∧ Sorted L' 0 (SL t).length ∧ P = run fr vl (PV (t + 1)) (from_ L' 0 (SL t).length) 0 (PV (t + 1)) true

theorem stA_elem {wB : World} {aC aR : Option Addr} {nc nr cC cR m : Nat} {CL : List (Int × Int)} {RL : List (Int × Int × Int × ByteArray)} (h : CfgIn wB aC aR nc nr cC cR m CL RL) (j t u : Nat) (hu : u < (stA CL RL aR j t).length) :
    -32768 ≤ (mk (stA CL RL aR j t) u).1 ∧ (mk (stA CL RL aR j t) u).1 ≤ 32767 ∧ ((mk (stA CL RL aR j t) u).2.1 = none ∨ ∃ q, q < j ∧ (mk (stA CL RL aR j t) u).2.1 = some ⟨grOf aR, q * 4, none⟩) := by
  have hm : (stA CL RL aR j t).getD u (0, none) ∈ stA CL RL aR j t := by
    rw [List.getD, List.getElem?_eq_getElem hu]
    exact List.getElem_mem hu
  show -32768 ≤ ((stA CL RL aR j t).getD u (0, none)).1 ∧ ((stA CL RL aR j t).getD u (0, none)).1 ≤ 32767 ∧ (((stA CL RL aR j t).getD u (0, none)).2 = none ∨ ∃ q, q < j ∧ ((stA CL RL aR j t).getD u (0, none)).2 = some ⟨grOf aR, q * 4, none⟩)
  generalize (stA CL RL aR j t).getD u (0, none) = x at *
  rcases List.mem_append.1 hm with k | k
  · obtain ⟨c, hc, rfl⟩ := List.mem_map.1 k
    have hc2 := List.mem_of_mem_take ((List.mem_filter.1 hc).1)
    obtain ⟨i, hi, rfl⟩ := List.mem_iff_getElem.1 hc2
    have := h.rngC i
    rw [List.getD, List.getElem?_eq_getElem hi] at this
    exact ⟨this.1, this.2, Or.inl rfl⟩
  · obtain ⟨q, hq, rfl⟩ := List.mem_map.1 k
    have hq2 := List.mem_range.1 ((List.mem_filter.1 hq).1)
    have := h.rngR q
    exact ⟨this.1, this.2.1, Or.inr ⟨q, hq2, rfl⟩⟩

theorem run_cons (fr : Addr → Int) (vl : Addr → ByteArray) (pv : ByteArray) (e : E) (L : List E) (f : Int) (p : ByteArray) (s : Bool) :
    run fr vl pv (e :: L) f p s = (if s && decide (f < e.1) then [(f, e.1, p)] else []) ++ match e.2.1 with
      | none => run fr vl pv L f p false
      | some a => run fr vl pv L (e.1 + fr a) (orS (vl a) pv) true := rfl
/-- one stop on: what was appended, and the state behind it -/
theorem run_none {fr : Addr → Int} {vl : Addr → ByteArray} {pv : ByteArray} {L' : Nat → E} {k n : Nat} {f : Int} {p : ByteArray} {s : Bool} {c : List Pr} {T : List Pr} (hk : k < n) (h : c ++ run fr vl pv (from_ L' k n) f p s = T) (hp : (L' k).2.1 = none) :
    (c ++ if s && decide (f < (L' k).1) then [(f, (L' k).1, p)] else []) ++ run fr vl pv (from_ L' (k + 1) n) f p false = T := by
  rw [from_cons L' k n hk, run_cons, hp] at h
  rw [List.append_assoc]
  exact h
theorem run_some {fr : Addr → Int} {vl : Addr → ByteArray} {pv : ByteArray} {L' : Nat → E} {k n : Nat} {f : Int} {p : ByteArray} {s : Bool} {c : List Pr} {T : List Pr} {a : Addr} (hk : k < n) (h : c ++ run fr vl pv (from_ L' k n) f p s = T) (hp : (L' k).2.1 = some a) :
    (c ++ if s && decide (f < (L' k).1) then [(f, (L' k).1, p)] else []) ++ run fr vl pv (from_ L' (k + 1) n) ((L' k).1 + fr a) (orS (vl a) pv) true = T := by
  rw [from_cons L' k n hk, run_cons, hp] at h
  rw [List.append_assoc]
  exact h
end Go.Proofs.Ybulkoc
