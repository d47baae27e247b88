import Derived.Test.YbulkocB1
namespace Go.Proofs.Ybulkoc
set_option linter.unusedVariables false
open Go.RowKit

/-! ### A region that draws its order, whose last operations write what its first ones read
S is held behind an operation i only where 'B i'; an operation without S waits for every load that was taken first. -/
section
variable {P : Program} {ops : Array Oper} {Q : Exit → Act → World → Prop} {md : Region.Mode} {S : World → Prop} {B : Nat → Bool}

def anyB (P : Program) (md : Region.Mode) (ops : Array Oper) (Q : Exit → Act → World → Prop) (S : World → Prop) (B : Nat → Bool) : Nat → Array Bool → Act → World → Prop
  | 0, listed, a, w => Region.ready md ops listed = [] ∧ Q .normal a w
  | n + 1, listed, a, w => (Region.ready md ops listed = [] → Q .normal a w) ∧ ∀ i ∈ Region.ready md ops listed, wpOp P ops Q i (fun a' w' => (B i = true → S w') ∧ anyB P md ops Q S B n (listed.setIfInBounds i true) a' w') a w

theorem anyB_any : ∀ (n : Nat) (listed : Array Bool) (a : Act) (w : World), anyB P md ops Q S B n listed a w → wpAny P md ops Q n listed a w := by
  intro n
  induction n with
  | zero => intro listed a w h; exact h
  | succ n ih => intro listed a w h; exact ⟨h.1, fun i hi => wpOp_mono (fun a' w' k => ih _ a' w' k.2) (h.2 i hi)⟩

/-- Does every operation behind which S need not hold wait for number i? -/
def lateOk (md : Region.Mode) (ops : Array Oper) (B : Nat → Bool) (i : Nat) : Bool :=
  (List.range ops.size).all fun j => B j || match ops[j]? with
    | some o => o.after.toList.any fun e => Region.binds md e && e.on == i
    | none => true
theorem lateOk_spec {i : Nat} (h : lateOk md ops B i = true) {j : Nat} {o : Oper} (ho : ops[j]? = some o) (hb : B j = false) : ∃ e ∈ o.after, Region.binds md e = true ∧ e.on = i := by
  have hj : j < ops.size := (Array.getElem?_eq_some_iff.1 ho).1
  have h1 := List.all_eq_true.1 h j (List.mem_range.2 hj)
  rw [hb, ho, Bool.false_or] at h1
  obtain ⟨e, he, h2⟩ := List.any_eq_true.1 h1
  rw [Bool.and_eq_true] at h2
  exact ⟨e, by simpa using he, h2.1, by simpa using h2.2⟩

theorem anyB_first {i : Nat} {oi : Oper} {v : Value} (hi : ops[i]? = some oi) (hsel : ∀ (j : Nat) (o : Oper) cs b, ops[j]? = some o → o.op ≠ .select cs b)
    (hQ : ∀ c a w, Q (.panic c) (a.put oi.dst v) w → Q (.panic c) a w) (hB : lateOk md ops B i = true) :
    ∀ (n : Nat) (listed : Array Bool) (a : Act) (w : World),
      (∀ j oj, ops[j]? = some oj → j ≠ i → listed.getD j true = false → (∀ e ∈ oj.after, Region.binds md e = true → e.on ≠ i) → oi.apart ops oj = true) →
      i ∈ Region.ready md ops listed → YieldsIf P ops S oi v a → S w →
      anyB P md ops Q S B n (listed.setIfInBounds i true) (a.put oi.dst v) w → anyB P md ops Q S B (n + 1) listed a w := by
  intro n
  induction n with
  | zero =>
    intro listed a w _ hr hy hS H
    refine ⟨fun h => absurd hr (by rw [h]; simp), fun j hj => ?_⟩
    by_cases hji : j = i
    · subst hji
      exact hy.wpOp hi hS ⟨fun _ => hS, H⟩
    · have := ready_mono hj hji
      rw [H.1] at this
      simp at this
  | succ n ih =>
    intro listed a w hfree hr hy hS H
    refine ⟨fun h => absurd hr (by rw [h]; simp), fun j hj => ?_⟩
    by_cases hji : j = i
    · subst hji
      exact hy.wpOp hi hS ⟨fun _ => hS, H⟩
    · obtain ⟨hun, oj, hoj, hall⟩ := mem_ready.1 hj
      have hiun := (mem_ready.1 hr).1
      have hnot : ∀ e ∈ oj.after, Region.binds md e = true → e.on ≠ i := by
        intro e he hb heq
        have h1 := hall e he hb
        rw [heq] at h1
        by_cases hlt : i < listed.size
        · simp [hlt] at h1 hiun
          rw [h1] at hiun
          cases hiun
        · simp [Array.getElem?_eq_none (Nat.le_of_not_lt hlt)] at h1
      have hBj : B j = true := by
        cases hb : B j with
        | true => rfl
        | false =>
          obtain ⟨e, he, h1, h2⟩ := lateOk_spec hB hoj hb
          exact absurd h2 (hnot e he h1)
      have h2 := wpOp_putIf hoj (hfree j oj hoj hji hun hnot) (fun cs b => hsel i oi cs b hi) (fun cs b => hsel j oj cs b hoj) hQ hy (H.2 j (ready_mono hj hji))
      refine wpOp_mono (fun a' w' k => ⟨k.2.1, ih (listed.setIfInBounds j true) a' w' ?_ (ready_mono hr (Ne.symm hji)) k.1 (k.2.1 hBj) ?_⟩) h2
      · intro l ol hl hli hlun hno
        refine hfree l ol hl hli ?_ hno
        by_cases hjl : j = l
        · subst hjl; exact hun
        · rw [getD_set_ne true hjl] at hlun; exact hlun
      · rw [Array.setIfInBounds_comm _ _ hji]
        exact k.2.2

theorem anyB_take {i : Nat} {oi : Oper} {v : Value} {n : Nat} {listed : Array Bool} {a : Act} {w : World} (hi : ops[i]? = some oi)
    (hs : Region.noSelect ops = true) (hf : Region.free md ops listed i = true) (hr : (Region.ready md ops listed).contains i = true) (hB : lateOk md ops B i = true)
    (hQ : ∀ c a w, Q (.panic c) (a.put oi.dst v) w → Q (.panic c) a w) (hS : S w) (hy : YieldsIf P ops S oi v a)
    (h : anyB P md ops Q S B n (listed.setIfInBounds i true) (a.put oi.dst v) w) : anyB P md ops Q S B (n + 1) listed a w :=
  anyB_first hi (Region.noSelect_spec hs) hQ hB n listed a w (Region.free_spec hi hf) (by simpa using hr) hy hS h

/-- One operation alone may come up. -/
theorem anyB_one {i : Nat} {o : Oper} {n : Nat} {listed : Array Bool} {a : Act} {w : World} (ho : ops[i]? = some o) (hr : Region.ready md ops listed = [i])
    (h : ∀ K' : Act → World → Prop, Shut (∀ a w, (B i = true → S w) → anyB P md ops Q S B n (listed.setIfInBounds i true) a w → K' a w) → if Region.wanted o (yielded ops a.tmps) = true then Oper.wp P o a w K' Q else K' (a.put o.dst undef) w) :
    anyB P md ops Q S B (n + 1) listed a w := by
  refine ⟨fun h0 => (by rw [hr] at h0; cases h0), fun j hj => ?_⟩
  rw [hr, List.mem_singleton] at hj
  subst hj
  exact wpOp_step ho (fun K' hK => h K' (fun a w h1 h2 => hK a w ⟨h1, h2⟩))

theorem anyB_done {n : Nat} {listed : Array Bool} {a : Act} {w : World} (hr : Region.ready md ops listed = []) (h : Q .normal a w) : anyB P md ops Q S B n listed a w := by
  cases n with
  | zero => exact ⟨hr, h⟩
  | succ n => exact ⟨fun _ => h, by rw [hr]; simp⟩

theorem wp_region_B {id : Nat} {a : Act} {w : World} (n : Nat) (hm : P.follows .mixedOrders = true) (hn : ops.size = n)
    (h : anyB P .any ops Q S B n (Array.replicate n false) a w.drew) : (Code.region id ops true).wp P Q a w := by
  subst hn
  exact wp_region_any hm (anyB_any _ _ _ _ h)
end
end Go.Proofs.Ybulkoc
