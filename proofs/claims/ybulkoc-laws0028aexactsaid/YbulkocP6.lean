import Derived.Test.YbulkocP5
namespace Go.Proofs.Ybulkoc
set_option linter.unusedVariables false
open Go.RowKit

theorem run_len (fr : Addr → Int) (vl : Addr → ByteArray) (pv : ByteArray) (L : List E) : ∀ (f : Int) (p : ByteArray) (s : Bool), (run fr vl pv L f p s).length ≤ (L.filter fun e => e.2.1.isSome).length + (if s then 1 else 0) := by
  induction L with
  | nil => intro f p s; cases s <;> simp [run]
  | cons e L ih =>
    intro f p s
    rw [run_cons, List.length_append]
    have h1 : (if s && decide (f < e.1) then [(f, e.1, p)] else ([] : List Pr)).length ≤ (if s then 1 else 0) := by
      cases s <;> by_cases h : f < e.1 <;> simp [h]
    generalize (if s && decide (f < e.1) then [(f, e.1, p)] else ([] : List Pr)).length = z at h1 ⊢
    cases hp : e.2.1 with
    | none =>
      have h2 := ih f p false
      simp only [hp, List.filter_cons, Option.isSome_none] at *
      simp at h2 ⊢
      omega
    | some a =>
      have h2 := ih (e.1 + fr a) (orS (vl a) pv) true
      simp only [hp, List.filter_cons, Option.isSome_some] at *
      simp at h2 ⊢
      omega

/-- Each process begins at or behind the end of the one before it, and ends behind its start. -/
def Ch : Int → List Pr → Prop
  | _, [] => True
  | lo, x :: P => lo ≤ x.1 ∧ x.1 < x.2.1 ∧ Ch x.2.1 P

theorem Ch.append1 {lo : Int} {c : Bool} {x : Pr} {P : List Pr} (h1 : c = true → lo ≤ x.1 ∧ x.1 < x.2.1 ∧ Ch x.2.1 P) (h2 : c = false → Ch lo P) : Ch lo ((if c then [x] else []) ++ P) := by
  cases c with
  | true => exact h1 rfl
  | false => exact h2 rfl

theorem run_ch (fr : Addr → Int) (vl : Addr → ByteArray) (pv : ByteArray) (hfr : ∀ a, 0 ≤ fr a ∧ fr a ≤ 65535) (L : List E) : ∀ (lo f : Int) (p : ByteArray) (s : Bool), L.Pairwise (fun x y => x.1 ≤ y.1) → (∀ e ∈ L, lo ≤ e.1 ∧ e.1 ≤ 32767) → (s = true → lo ≤ f) → f ≤ 98302 → Ch lo (run fr vl pv L f p s) := by
  induction L with
  | nil =>
    intro lo f p s _ _ hs hf
    cases s with
    | true => exact ⟨hs rfl, show f < longest1 by unfold longest1; omega, trivial⟩
    | false => exact trivial
  | cons e L ih =>
    intro lo f p s hp he hs hf
    rw [run_cons]
    rw [List.pairwise_cons] at hp
    have he0 := he e (List.mem_cons_self ..)
    have hel : ∀ e' ∈ L, e.1 ≤ e'.1 ∧ e'.1 ≤ 32767 := fun e' h' => ⟨hp.1 e' h', (he e' (List.mem_cons_of_mem _ h')).2⟩
    have hel2 : ∀ e' ∈ L, lo ≤ e'.1 ∧ e'.1 ≤ 32767 := fun e' h' => he e' (List.mem_cons_of_mem _ h')
    refine Ch.append1 (fun hc => ?_) (fun hc => ?_)
    · simp only [Bool.and_eq_true, decide_eq_true_eq] at hc
      refine ⟨hs hc.1, hc.2, ?_⟩
      cases hq : e.2.1 with
      | none => exact ih e.1 f p false hp.2 hel (fun h => by cases h) hf
      | some a => exact ih e.1 (e.1 + fr a) _ true hp.2 hel (fun _ => by have := hfr a; omega) (by have := hfr a; omega)
    · cases hq : e.2.1 with
      | none => exact ih lo f p false hp.2 hel2 (fun h => by cases h) hf
      | some a => exact ih lo (e.1 + fr a) _ true hp.2 hel2 (fun _ => by have := hfr a; omega) (by have := hfr a; omega)

theorem Ch.at_ {lo : Int} {P : List Pr} (h : Ch lo P) (k : Nat) (d : Pr) (hk : k < P.length) : (P.getD k d).1 < (P.getD k d).2.1 ∧ (0 < k → (P.getD (k - 1) d).2.1 ≤ (P.getD k d).1) := by
  induction P generalizing lo k with
  | nil => simp at hk
  | cons x P ih =>
    obtain ⟨h1, h2, h3⟩ := h
    cases k with
    | zero => exact ⟨h2, fun h => by omega⟩
    | succ k =>
      have hk' : k < P.length := by simpa using hk
      obtain ⟨i1, i2⟩ := ih h3 k hk'
      refine ⟨by simpa using i1, fun _ => ?_⟩
      cases k with
      | zero =>
        cases P with
        | nil => simp at hk'
        | cons y P => simpa using h3.1
      | succ k => simpa using i2 (by omega)

theorem from_all (L : Nat → E) (n : Nat) : from_ L 0 n = (List.range n).map L := by simp [from_]
theorem sorted_pairwise {L : Nat → E} {n : Nat} (h : Sorted L 0 n) : ((List.range n).map L).Pairwise elt := by
  rw [List.pairwise_map, List.pairwise_iff_getElem]
  intro i j hi hj hij
  simp at hi hj ⊢
  exact h i j (Nat.zero_le _) hij hj

theorem sorted_keys {L : Nat → E} {n : Nat} (h : Sorted L 0 n) : ((List.range n).map L).Pairwise (fun x y => x.1 ≤ y.1) := by
  rw [List.pairwise_map, List.pairwise_iff_getElem]
  intro i j hi hj hij
  simp at hi hj ⊢
  exact elt_key (h i j (Nat.zero_le _) hij hj)

theorem shuf_perm {L L' : Nat → E} {n : Nat} (h : Shuf 0 n L L') : ((List.range n).map L').Perm ((List.range n).map L) := by
  have hin : ∀ i, i < n → ∃ j, j < n ∧ L' i = L j := fun i hi => by
    obtain ⟨j, _, h1, h2⟩ := h.inn (Nat.zero_le i) hi
    exact ⟨j, h1, h2⟩
  obtain ⟨σ, τ, h1, h2, h3, h4⟩ := h
  have hσ : ∀ i, σ i < n ↔ i < n := fun i => by
    constructor
    · intro hi
      rcases Nat.lt_or_ge i n with k | k
      · exact k
      · rw [h3 i (Or.inr k)] at hi; exact hi
    · intro hi
      rcases Nat.lt_or_ge (σ i) n with k | k
      · exact k
      · have e := h3 (σ i) (Or.inr k)
        have e2 := congrArg τ e
        rw [h2, h2] at e2
        omega
  have e : (List.range n).map L' = ((List.range n).map σ).map L := by rw [List.map_map]; exact List.map_congr_left (fun i _ => h4 i)
  rw [e]
  refine List.Perm.map L ?_
  rw [List.perm_iff_count]
  intro a
  have c1 : (List.range n).count a = if a < n then 1 else 0 := by
    by_cases ha : a < n
    · rw [if_pos ha, List.Nodup.count List.nodup_range, if_pos (List.mem_range.2 ha)]
    · rw [if_neg ha, List.count_eq_zero.2 (fun h => ha (List.mem_range.1 h))]
  rw [c1]
  have hnd : ((List.range n).map σ).Nodup := by
    rw [List.Nodup, List.pairwise_map, List.pairwise_iff_getElem]
    intro x y hx hy hxy hh
    have := congrArg τ hh
    rw [h2, h2] at this
    simp at this
    omega
  have hmem : a ∈ (List.range n).map σ ↔ a < n := by
    rw [List.mem_map]
    constructor
    · rintro ⟨i, hi, rfl⟩; exact (hσ i).2 (List.mem_range.1 hi)
    · intro ha; exact ⟨τ a, List.mem_range.2 ((hσ (τ a)).1 (by rw [h1]; exact ha)), h1 a⟩
  by_cases ha : a < n
  · rw [if_pos ha, List.Nodup.count hnd, if_pos (hmem.2 ha)]
  · rw [if_neg ha, List.count_eq_zero.2 (fun h => ha (hmem.1 h))]

theorem mk_list (S : List (Int × Option Addr)) : ((List.range S.length).map (mk S)).map (fun e => (e.1, e.2.1)) = S := by
  apply List.ext_getElem
  · simp
  · intro i h1 h2
    simp [mk, List.getD, List.getElem?_eq_getElem h2]

theorem cnt_mk (S : List (Int × Option Addr)) : (((List.range S.length).map (mk S)).filter fun e => e.2.1.isSome).length = (S.filter fun s => s.2.isSome).length := by
  conv => rhs; rw [← mk_list S]
  rw [List.map_map, List.filter_map, List.filter_map, List.length_map, List.length_map]
  rfl

theorem cnt_stA (CL : List (Int × Int)) (RL : List (Int × Int × Int × ByteArray)) (aR : Option Addr) (j t : Nat) :
    ((stA CL RL aR j t).filter fun s => s.2.isSome).length = ((List.range j).filter fun k => (RL.getD k (0, 0, 0, .empty)).1 == (t : Int) + 1).length := by
  unfold stA stC stR
  rw [List.filter_append, List.length_append, List.filter_map, List.filter_map, List.length_map, List.length_map]
  have e1 : ((fun s : Int × Option Addr => s.2.isSome) ∘ fun c : Int × Int => (c.2, (none : Option Addr))) = fun _ => false := rfl
  have e2 : ((fun s : Int × Option Addr => s.2.isSome) ∘ fun k => ((RL.getD k (0, 0, 0, .empty)).2.1, some (⟨grOf aR, k * 4, none⟩ : Addr))) = fun _ => true := rfl
  rw [e1, e2]
  simp

/-- The first law of the processes of a member: how many there are, and their order. -/
theorem made_law {fr : Addr → Int} {vl : Addr → ByteArray} {PV : Nat → ByteArray} {CL : List (Int × Int)} {RL : List (Int × Int × Int × ByteArray)} {aR : Option Addr} {j t : Nat} {P : List Pr} (h : Made fr vl PV (stA CL RL aR j) t P) (hfr : ∀ a, 0 ≤ fr a ∧ fr a ≤ 65535)
    (hr : ∀ u, u < (stA CL RL aR j t).length → -32768 ≤ (mk (stA CL RL aR j t) u).1 ∧ (mk (stA CL RL aR j t) u).1 ≤ 32767) :
    P.length ≤ ((List.range j).filter fun k => (RL.getD k (0, 0, 0, .empty)).1 == (t : Int) + 1).length + 1 ∧ Ch (-32768) P := by
  obtain ⟨L', h1, h2, rfl⟩ := h
  have hp := shuf_perm h1
  rw [from_all]
  refine ⟨?_, run_ch fr vl _ hfr _ _ _ _ _ (sorted_keys h2) (fun e he => ?_) (fun _ => by omega) (by omega)⟩
  · refine Nat.le_trans (run_len fr vl _ _ _ _ _) ?_
    rw [(hp.filter _).length_eq, cnt_mk, cnt_stA]
    simp
  · have := hp.mem_iff.1 he
    obtain ⟨u, hu, rfl⟩ := List.mem_map.1 this
    exact hr u (List.mem_range.1 hu)

/-- Two sorted arrangements of the same stops are one. -/
theorem made_uniq {L A B : Nat → E} {n : Nat} (hA : Shuf 0 n L A) (hB : Shuf 0 n L B) (sA : Sorted A 0 n) (sB : Sorted B 0 n) : (List.range n).map A = (List.range n).map B := by
  refine List.Perm.eq_of_pairwise (le := elt) ?_ (sorted_pairwise sA) (sorted_pairwise sB) ((shuf_perm hA).trans (shuf_perm hB).symm)
  intro a b _ _ h1 h2
  unfold elt at h1 h2
  omega
end Go.Proofs.Ybulkoc
