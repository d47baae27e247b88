import Derived.Test.YbulkquW4
namespace Go.Proofs.Ybulkqu
set_option linter.unusedVariables false
open Go.RowKit

/-- The arrivals that the law lays: sender i, sequence number Q[i], closed i. -/
def lawA (Q : List Int) (t : Nat) : Arr := (t, Q.getD t 0, t)

/-- The sequence numbers as they lie. -/
def Seqs (w : World) (g : Nat) (Q : List Int) : Prop := ∀ t, t < Q.length → w.cell? ⟨g, t, none⟩ = some (.int .u64 (Q.getD t 0))

theorem Seqs.of_owns {w : World} {B g n : Nat} {Q : List Int} (h : w.ownsRow B 22 1 (.slice (some ⟨g, 0, none⟩) Q.length n) Q.length (Q.map (Value.int .u64))) : Seqs w g Q ∧ g < w.heap.size := by
  obtain ⟨_, h2⟩ := h
  rcases h2 with ⟨h2, _⟩ | ⟨g', cap, cur, hv, hg, hh, _, _, hc, ht⟩
  · simp at h2
  · simp only [Value.slice.injEq, Option.some.injEq, Addr.mk.injEq] at hv
    obtain ⟨⟨rfl, _, _⟩, _, _⟩ := hv
    refine ⟨fun t htl => ?_, (Array.getElem?_eq_some_iff.1 hh).1⟩
    have h1 : (cur.toList.take (Q.length * 1))[t]? = some (.int .u64 (Q.getD t 0)) := by
      rw [ht, List.getElem?_map, List.getElem?_eq_getElem htl]
      simp [List.getD, htl]
    rw [List.getElem?_take] at h1
    split at h1
    · simpa [World.cell?, hh] using h1
    · simp at h1
theorem Seqs.below {w w' : World} {B g : Nat} {Q : List Int} (h : Seqs w g Q) (hb : Below B w w') (hg : g < B) : Seqs w' g Q := fun t ht => (hb.cell (p := ⟨g, t, none⟩) hg).trans (h t ht)

/-- The array of arrivals while it is laid: k of m are there. -/
structure Laying (w : World) (h m k : Nat) (A : Nat → Arr) : Prop where
  held : Holds w h k A
  there : ∀ o, o < m * 4 → (w.cell? ⟨h, o, none⟩).isSome = true
  free : ∀ o, w.frozen? ⟨h, o, none⟩ = false
  lt : h < w.heap.size

theorem Laying.of_owns {w : World} {B h m : Nat} {xs : List Value} (A : Nat → Arr) (ho : w.ownsRow B 30 4 (.slice (some ⟨h, 0, none⟩) m m) m xs) : Laying w h m 0 A := by
  obtain ⟨_, h2⟩ := ho
  rcases h2 with ⟨h2, _⟩ | ⟨g', cap, cur, hv, hg, hh, hle, _, hc, ht⟩
  · simp at h2
  · simp only [Value.slice.injEq, Option.some.injEq, Addr.mk.injEq] at hv
    obtain ⟨⟨rfl, _, _⟩, _, rfl⟩ := hv
    refine ⟨fun t ht => by omega, fun o ho => ?_, fun o => by simp [World.frozen?, hh], (Array.getElem?_eq_some_iff.1 hh).1⟩
    have : o < cur.size := by rw [hc]; exact ho
    simp [World.cell?, hh, this]

theorem isSome_setCells (b : Nat) : ∀ (vs : List Value) (o : Nat) (w : World) (x : Addr), (w.cell? x).isSome = true → ((w.setCells b o vs).cell? x).isSome = true
  | [], _, _, _, h => h
  | v :: r, o, w, x, h => by
    refine isSome_setCells b r (o + 1) _ x ?_
    obtain ⟨u, hu⟩ := Option.isSome_iff_exists.1 h
    obtain ⟨v', hv'⟩ := cell?_setCell_some (w := w) (p := ⟨b, o, none⟩) (x := v) (q := x) (v := u) hu
    rw [hv']; rfl

theorem Laying.step {w : World} {h m k : Nat} {A : Nat → Arr} (L : Laying w h m k A) (hk : k < m) :
    Laying ((((w.setCell ⟨h, k * 4, none⟩ (arrCell (A k) 0)).setCell ⟨h, k * 4 + 1, none⟩ (arrCell (A k) 1)).setCell ⟨h, k * 4 + 2, none⟩ (arrCell (A k) 2)).setCell ⟨h, k * 4 + 3, none⟩ (arrCell (A k) 3)) h m (k + 1) A := by
  have e : ((((w.setCell ⟨h, k * 4, none⟩ (arrCell (A k) 0)).setCell ⟨h, k * 4 + 1, none⟩ (arrCell (A k) 1)).setCell ⟨h, k * 4 + 2, none⟩ (arrCell (A k) 2)).setCell ⟨h, k * 4 + 3, none⟩ (arrCell (A k) 3)) = w.setCells h (k * 4) (rows A k 1) := by
    show _ = w.setCells h (k * 4) [arrCell (A (k + 0 / 4)) (0 % 4), arrCell (A (k + 1 / 4)) (1 % 4), arrCell (A (k + 2 / 4)) (2 % 4), arrCell (A (k + 3 / 4)) (3 % 4)]
    rfl
  rw [e]
  have hO := Only.setCells h (rows A k 1) (k * 4) w
  refine ⟨Holds.mk fun o ho => ?_, fun o ho => ?_, fun o => (hO.frozen _).trans (L.free o), by rw [hO.size]; exact L.lt⟩
  · by_cases hlt : o < k * 4
    · rw [World.cell?_setCells_out h _ _ _ _ (fun _ _ => Or.inl (by simpa using hlt))]
      exact L.held.at o hlt
    · have := World.cell?_setCells_in h (rows A k 1) (k * 4) w (fun j hj => L.there _ (by rw [rows_length] at hj; omega)) (o - k * 4) (by rw [rows_length]; omega)
      rw [show k * 4 + (o - k * 4) = o by omega] at this
      rw [this, rows_get, show k + (o - k * 4) / 4 = o / 4 by omega, show (o - k * 4) % 4 = o % 4 by omega]
  · exact isSome_setCells h _ _ _ _ (L.there o ho)

theorem cnt_of (Q : List Int) (y : Int) (j : Nat) (hj : j ≤ Q.length) (h1 : ∀ t, t < j → Q.getD t 0 ≤ y) (h2 : ∀ t, j ≤ t → t < Q.length → y < Q.getD t 0) : Q.countP (fun q => decide (q ≤ y)) = j := by
  have e : Q = Q.take j ++ Q.drop j := (List.take_append_drop j Q).symm
  rw [e, List.countP_append]
  have a : (Q.take j).countP (fun q => decide (q ≤ y)) = (Q.take j).length := by
    rw [List.countP_eq_length]
    intro q hq
    obtain ⟨t, ht, rfl⟩ := List.mem_iff_getElem.1 hq
    have ht' : t < j := by simp at ht; omega
    have := h1 t ht'
    simp [List.getD, List.getElem?_eq_getElem (show t < Q.length by omega)] at this
    simpa using this
  have b : (Q.drop j).countP (fun q => decide (q ≤ y)) = 0 := by
    rw [List.countP_eq_zero]
    intro q hq
    obtain ⟨t, ht, rfl⟩ := List.mem_iff_getElem.1 hq
    have ht' : j + t < Q.length := by simp at ht; omega
    have := h2 (j + t) (by omega) ht'
    simp [List.getD, List.getElem?_eq_getElem ht'] at this
    simpa using this
  rw [a, b]; simp; omega
end Go.Proofs.Ybulkqu
