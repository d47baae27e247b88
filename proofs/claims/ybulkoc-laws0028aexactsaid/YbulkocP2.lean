import Derived.Test.YbulkocP1
namespace Go.Proofs.Ybulkoc
set_option linter.unusedVariables false
open Go.RowKit

theorem info64 : (Yba.prog.info? 64).map (fun i => (i.zero, i.size, i.bytes)) = some (some (.agg #[.int .i64 0, .pointer none]), 2, 16) := by kernel_rfl
theorem info61 : (Yba.prog.info? 61).map (fun i => (i.zero, i.size, i.bytes)) = some (some (.slice none 0 0), 1, 24) := by kernel_rfl
theorem info48 : (Yba.prog.info? 48).map (fun i => (i.zero, i.size, i.bytes)) = some (some (.agg #[.int .i64 0, .int .i64 0, .string .empty]), 3, 32) := by kernel_rfl
theorem info43 : (Yba.prog.info? 43).map (fun i => (i.zero, i.size, i.bytes)) = some (some (.slice none 0 0), 1, 24) := by kernel_rfl

theorem own_form {w : World} {base e size n : Nat} {v : Value} {xs : List Value} (h : w.ownsRow base e size v n xs) :
    ∃ a cap, v = .slice a n cap ∧ n ≤ cap ∧ (0 < n → ∃ g, a = some ⟨g, 0, none⟩ ∧ base ≤ g ∧ g < w.heap.size) := by
  have h0 := h
  rcases h.2 with ⟨rfl, rfl⟩ | ⟨g, cap, cur, rfl, hb, hg, hn, _⟩
  · exact ⟨none, 0, rfl, Nat.le_refl _, fun h => absurd h (by omega)⟩
  · exact ⟨_, cap, rfl, hn, fun _ => ⟨g, rfl, hb, (h0.lt g rfl).2⟩⟩

/-- The stops of member id + 1, out of the first i crashes. -/
def stC (CL : List (Int × Int)) (i id : Nat) : List (Int × Option Addr) := ((CL.take i).filter fun c => c.1 == (id : Int) + 1).map fun c => (c.2, none)
def stCells (L : List (Int × Option Addr)) : List Value := L.flatMap fun s => [.int .i64 s.1, .pointer s.2]
theorem stCells_snoc (L : List (Int × Option Addr)) (s : Int × Option Addr) : stCells (L ++ [s]) = stCells L ++ [.int .i64 s.1, .pointer s.2] := by simp [stCells]
theorem stCells_len (L : List (Int × Option Addr)) : (stCells L).length = L.length * 2 := flat_len _ 2 (fun _ => rfl) L
theorem stC_zero (CL : List (Int × Int)) (id : Nat) : stC CL 0 id = [] := rfl
theorem stC_hit (CL : List (Int × Int)) (i id : Nat) (h : i < CL.length) (hc : (CL.getD i (0, 0)).1 = (id : Int) + 1) : stC CL (i + 1) id = stC CL i id ++ [((CL.getD i (0, 0)).2, none)] := by
  unfold stC
  rw [take_snoc CL i (0, 0) h, List.filter_append, List.map_append]
  have : ((CL.getD i (0, 0)).1 == (id : Int) + 1) = true := by simpa using hc
  simp only [List.filter_cons, List.filter_nil, this]
  simp
theorem stC_miss (CL : List (Int × Int)) (i id : Nat) (h : i < CL.length) (hc : (CL.getD i (0, 0)).1 ≠ (id : Int) + 1) : stC CL (i + 1) id = stC CL i id := by
  unfold stC
  rw [take_snoc CL i (0, 0) h, List.filter_append, List.map_append]
  have : ((CL.getD i (0, 0)).1 == (id : Int) + 1) = false := by simpa using hc
  simp only [List.filter_cons, List.filter_nil, this]
  simp
theorem stC_le (CL : List (Int × Int)) (i id : Nat) : (stC CL i id).length ≤ CL.length := by
  unfold stC
  rw [List.length_map]
  refine Nat.le_trans (List.length_filter_le _ _) ?_
  rw [List.length_take]
  omega

/-- The stops of member id + 1, out of the first j restarts of the array at block gr. -/
def stR (RL : List (Int × Int × Int × ByteArray)) (gr : Nat) (j id : Nat) : List (Int × Option Addr) :=
  ((List.range j).filter fun k => (RL.getD k (0, 0, 0, .empty)).1 == (id : Int) + 1).map fun k => ((RL.getD k (0, 0, 0, .empty)).2.1, some ⟨gr, k * 4, none⟩)
theorem stR_hit (RL : List (Int × Int × Int × ByteArray)) (gr j id : Nat) (hc : (RL.getD j (0, 0, 0, .empty)).1 = (id : Int) + 1) : stR RL gr (j + 1) id = stR RL gr j id ++ [((RL.getD j (0, 0, 0, .empty)).2.1, some ⟨gr, j * 4, none⟩)] := by
  unfold stR
  rw [List.range_succ, List.filter_append, List.map_append]
  have : ((RL.getD j (0, 0, 0, .empty)).1 == (id : Int) + 1) = true := by simpa using hc
  simp only [List.filter_cons, List.filter_nil, this]
  simp
theorem stR_miss (RL : List (Int × Int × Int × ByteArray)) (gr j id : Nat) (hc : (RL.getD j (0, 0, 0, .empty)).1 ≠ (id : Int) + 1) : stR RL gr (j + 1) id = stR RL gr j id := by
  unfold stR
  rw [List.range_succ, List.filter_append, List.map_append]
  have : ((RL.getD j (0, 0, 0, .empty)).1 == (id : Int) + 1) = false := by simpa using hc
  simp only [List.filter_cons, List.filter_nil, this]
  simp
theorem stR_le (RL : List (Int × Int × Int × ByteArray)) (gr j id : Nat) : (stR RL gr j id).length ≤ j := by
  unfold stR
  rw [List.length_map]
  refine Nat.le_trans (List.length_filter_le _ _) ?_
  rw [List.length_range]
  exact Nat.le_refl _

theorem fam_hit {w : World} {base gs m id k : Nat} {V : Nat → Value} {v : Value} {L L' : Nat → List (Int × Option Addr)} {xs : List Value} {x : Int × Option Addr}
    (h : Fam w base gs m 64 2 (upd V id v) (upd (fun t => (L t).length) id k) (upd (fun t => stCells (L t)) id xs)) (h1 : L' id = L id ++ [x]) (hk : k = (L id).length + 1) (hx : xs = stCells (L id) ++ [.int .i64 x.1, .pointer x.2]) (h2 : ∀ t, t ≠ id → L' t = L t) :
    Fam w base gs m 64 2 (upd V id v) (fun t => (L' t).length) (fun t => stCells (L' t)) := by
  have e1 : upd (fun t => (L t).length) id k = fun t => (L' t).length := by
    funext t
    by_cases e : t = id
    · subst e; rw [upd_same, h1, hk]; simp
    · rw [upd_other _ _ e, h2 t e]
  have e2 : upd (fun t => stCells (L t)) id xs = fun t => stCells (L' t) := by
    funext t
    by_cases e : t = id
    · subst e; rw [upd_same, h1, hx, stCells_snoc]
    · rw [upd_other _ _ e, h2 t e]
  rw [e1, e2] at h
  exact h

/-- The block of the restarts' array. -/
def grOf : Option Addr → Nat
  | some a => a.block
  | none => 0
/-- The stops of member id + 1: its crashes, then its first j restarts. -/
def stA (CL : List (Int × Int)) (RL : List (Int × Int × Int × ByteArray)) (aR : Option Addr) (j id : Nat) : List (Int × Option Addr) := stC CL CL.length id ++ stR RL (grOf aR) j id
theorem stA_zero (CL : List (Int × Int)) (RL : List (Int × Int × Int × ByteArray)) (aR : Option Addr) (id : Nat) : stA CL RL aR 0 id = stC CL CL.length id := by simp [stA, stR]
theorem stA_hit (CL : List (Int × Int)) (RL : List (Int × Int × Int × ByteArray)) (aR : Option Addr) (j id : Nat) (hc : (RL.getD j (0, 0, 0, .empty)).1 = (id : Int) + 1) : stA CL RL aR (j + 1) id = stA CL RL aR j id ++ [((RL.getD j (0, 0, 0, .empty)).2.1, some ⟨grOf aR, j * 4, none⟩)] := by
  unfold stA; rw [stR_hit RL _ j id hc, List.append_assoc]
theorem stA_miss (CL : List (Int × Int)) (RL : List (Int × Int × Int × ByteArray)) (aR : Option Addr) (j id : Nat) (hc : (RL.getD j (0, 0, 0, .empty)).1 ≠ (id : Int) + 1) : stA CL RL aR (j + 1) id = stA CL RL aR j id := by
  unfold stA; rw [stR_miss RL _ j id hc]
theorem stA_le (CL : List (Int × Int)) (RL : List (Int × Int × Int × ByteArray)) (aR : Option Addr) (j id : Nat) : (stA CL RL aR j id).length ≤ CL.length + j := by
  unfold stA
  rw [List.length_append]
  have := stC_le CL CL.length id
  have := stR_le RL (grOf aR) j id
  omega

/-- What the Config's slices hold, in a world wB. -/
structure CfgIn (wB : World) (aC aR : Option Addr) (nc nr cC cR m : Nat) (CL : List (Int × Int)) (RL : List (Int × Int × Int × ByteArray)) : Prop where
  lenC : CL.length = nc
  lenR : RL.length = nr
  capC : nc ≤ cC
  capR : nr ≤ cR
  smallC : nc ≤ 1024
  smallR : nr ≤ 1024
  m1 : 1 ≤ m
  m8 : m ≤ 8
  crash : 0 < nc → ∃ g, aC = some ⟨g, 0, none⟩ ∧ g < wB.heap.size ∧ ∀ i, i < nc → wB.cell? ⟨g, i * 2, none⟩ = some (.int .i64 (CL.getD i (0, 0)).1) ∧ wB.cell? ⟨g, i * 2 + 1, none⟩ = some (.int .i64 (CL.getD i (0, 0)).2)
  rest : 0 < nr → ∃ g, aR = some ⟨g, 0, none⟩ ∧ g < wB.heap.size ∧ ∀ j, j < nr → wB.cell? ⟨g, j * 4, none⟩ = some (.int .i64 (RL.getD j (0, 0, 0, .empty)).1) ∧ wB.cell? ⟨g, j * 4 + 1, none⟩ = some (.int .i64 (RL.getD j (0, 0, 0, .empty)).2.1) ∧ wB.cell? ⟨g, j * 4 + 2, none⟩ = some (.int .i64 (RL.getD j (0, 0, 0, .empty)).2.2.1) ∧ wB.cell? ⟨g, j * 4 + 3, none⟩ = some (.string (RL.getD j (0, 0, 0, .empty)).2.2.2)
  memC : ∀ i, i < nc → ∃ id : Nat, id < m ∧ (CL.getD i (0, 0)).1 = (id : Int) + 1
  memR : ∀ j, j < nr → ∃ id : Nat, id < m ∧ (RL.getD j (0, 0, 0, .empty)).1 = (id : Int) + 1
  rngC : ∀ i, -32768 ≤ (CL.getD i (0, 0)).2 ∧ (CL.getD i (0, 0)).2 ≤ 32767
  rngR : ∀ j, -32768 ≤ (RL.getD j (0, 0, 0, .empty)).2.1 ∧ (RL.getD j (0, 0, 0, .empty)).2.1 ≤ 32767 ∧ -32768 ≤ (RL.getD j (0, 0, 0, .empty)).2.2.1 ∧ (RL.getD j (0, 0, 0, .empty)).2.2.1 ≤ 65535
end Go.Proofs.Ybulkoc
