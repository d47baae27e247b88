import Derived.Test.YbulkquW1
namespace Go.Proofs.Ybulkqu
set_option linter.unusedVariables false
open Go.RowKit

/-- An arrival: sender, sequence number, closed. -/
abbrev Arr := Int × Int × Int
/-- The first n elements of the array at block h. -/
def Holds (w : World) (h n : Nat) (A : Nat → Arr) : Prop :=
  ∀ t, t < n → w.cell? ⟨h, t * 4, none⟩ = some (.int .i64 (A t).1) ∧ w.cell? ⟨h, t * 4 + 1, none⟩ = some (.int .u64 (A t).2.1) ∧ w.cell? ⟨h, t * 4 + 2, none⟩ = some (.slice none 0 0) ∧ w.cell? ⟨h, t * 4 + 3, none⟩ = some (.int .u64 (A t).2.2)

theorem Holds.below {w w' : World} {B h n : Nat} {A : Nat → Arr} (hh : Holds w h n A) (hb : Below B w w') (hB : h < B) : Holds w' h n A := fun t ht => by
  obtain ⟨h0, h1, h2, h3⟩ := hh t ht
  exact ⟨(hb.cell (p := ⟨h, t * 4, none⟩) hB).trans h0, (hb.cell (p := ⟨h, t * 4 + 1, none⟩) hB).trans h1, (hb.cell (p := ⟨h, t * 4 + 2, none⟩) hB).trans h2, (hb.cell (p := ⟨h, t * 4 + 3, none⟩) hB).trans h3⟩

theorem search_any (h n cap : Nat) (A : Nat → Arr) (y : Int) (w : World) (hn : n ≤ 1024) (hcap : n ≤ cap) (hh : h < w.heap.size) (hH : Holds w h n A) (hsort : ∀ t u, t < u → u < n → (A t).2.1 < (A u).2.1) :
    Calls Yba.prog 8 #[.slice (some ⟨h, 0, none⟩) n cap, .int .u64 y, .func (.func 9) #[] #[]] w fun e w' =>
      ∃ i : Nat, i ≤ n ∧ (∀ t, t < i → (A t).2.1 < y) ∧ (∀ t, i ≤ t → t < n → y ≤ (A t).2.1) ∧ e = .returned (.tuple #[.int .i64 i, .bool (decide (i < n ∧ (A i).2.1 = y))]) ∧ Below w.heap.size w w' := by
  go_enter Yba.func8, Yba.ntmps8
  go_wp2_with fail
  go_loopw [9, 10] (fun iv jv wr => ∃ i j : Nat, iv = .int .i64 i ∧ jv = .int .i64 j ∧ i ≤ j ∧ j ≤ n ∧ (∀ t, t < i → (A t).2.1 < y) ∧ (∀ t, j ≤ t → t < n → y ≤ (A t).2.1) ∧ Below w.heap.size w wr) (fun iv jv _ => (intOf jv).toNat - (intOf iv).toNat)
  case atStart => exact ⟨0, n, rfl, rfl, Nat.zero_le _, Nat.le_refl _, fun t ht => absurd ht (by omega), fun t h1 h2 => absurd h1 (by omega), Below.refl _ _⟩
  case round =>
    obtain ⟨i, j, rfl, rfl, hij, hjn, hlo, hhi, hb⟩ := hrel
    have hHr := hH.below hb hh
    have hhr : h < wr.heap.size := Nat.lt_of_lt_of_le hh hb.size
    have HB := hide hb
    have HLO := hide hlo
    have HHI := hide hhi
    have HS := hide hsort
    clear hb hlo hhi hsort hH
    by_cases hlt : i < j
    · obtain ⟨c0, c1, c2, c3⟩ := hHr ((i + j) / 2) (by omega)
      have hm1 : i ≤ (i + j) / 2 := by omega
      have hm2 : (i + j) / 2 < j := by omega
      have hcast : ((i : Int) + (j : Int)) / 2 = (((i + j) / 2 : Nat) : Int) := by omega
      have HCA := hide hcast
      clear hHr hcast
      go_wp2_with fail
      refine (bySeq_any _ _ _ _ _ rfl _).mono ?_
      rintro e w' ⟨rfl, hb⟩
      have HB2 := hide hb
      have hsz := HB.out.size
      clear hb c0 c1 c2 c3
      by_cases hc : (A ((i + j) / 2)).2.1 < y
      · rw [show cmpI (A ((i + j) / 2)).2.1 y = -1 by simp [cmpI, hc]]
        go_wp2
        go_roundw
        case rel =>
          refine ⟨(i + j) / 2 + 1, j, by rw [HCA.out]; go_num, rfl, by omega, hjn, fun t ht => ?_, HHI.out, HB.out.trans (HB2.out.mono hsz)⟩
          rcases Nat.lt_or_ge t ((i + j) / 2) with h | h
          · exact Int.lt_trans (HS.out t _ h (by omega)) hc
          · rw [show t = (i + j) / 2 by omega]; exact hc
        case measure => simp [intOf]; omega
      · obtain ⟨x, hx, hx0⟩ : ∃ x, cmpI (A ((i + j) / 2)).2.1 y = x ∧ 0 ≤ x := by
          refine ⟨_, rfl, ?_⟩
          simp only [cmpI, hc, if_false]
          split <;> decide
        rw [hx]
        clear hx
        go_wp2
        go_roundw
        case rel =>
          refine ⟨i, (i + j) / 2, rfl, by rw [HCA.out], hm1, by omega, HLO.out, fun t h1 h2 => ?_, HB.out.trans (HB2.out.mono hsz)⟩
          rcases Nat.lt_or_ge ((i + j) / 2) t with h | h
          · have := HS.out _ t h h2; omega
          · rw [show t = (i + j) / 2 by omega]; omega
        case measure => simp [intOf]; omega
    · obtain rfl : i = j := by omega
      by_cases hin : i < n
      · obtain ⟨c0, c1, c2, c3⟩ := hHr i hin
        clear hHr
        go_wp2_with fail
        refine (bySeq_any _ _ _ _ _ rfl _).mono ?_
        rintro e w' ⟨rfl, hb⟩
        have HB2 := hide hb
        have hsz := HB.out.size
        clear hb c0 c1 c2 c3
        by_cases hq : (A i).2.1 = y
        · rw [show cmpI (A i).2.1 y = 0 by simp [cmpI, hq]]
          have HQ := hide hq
          clear hq
          go_wp2
          go_ret2
          refine ⟨i, hjn, HLO.out, HHI.out, ?_, HB.out.trans (HB2.out.mono hsz)⟩
          rw [show decide (i < n ∧ (A i).2.1 = y) = true by simp [hin, HQ.out]]
          rfl
        · obtain ⟨x, hx, hx0⟩ : ∃ x, cmpI (A i).2.1 y = x ∧ (x == 0) = false := by
            refine ⟨_, rfl, ?_⟩
            have : (A i).2.1 < y ∨ y < (A i).2.1 := by omega
            rcases this with h | h
            · simp [cmpI, h]
            · simp [cmpI, h, show ¬ (A i).2.1 < y by omega]
          rw [hx]
          have HQ := hide hq
          clear hx hq
          go_wp2
          go_ret2
          refine ⟨i, hjn, HLO.out, HHI.out, ?_, HB.out.trans (HB2.out.mono hsz)⟩
          rw [show decide (i < n ∧ (A i).2.1 = y) = false by simp only [decide_eq_false_iff_not]; exact fun h => HQ.out h.2]
          rfl
      · have hd : decide ((i : Int) < (n : Int)) = false := by simp; omega
        clear hHr
        go_wp2
        go_ret2
        refine ⟨i, hjn, HLO.out, HHI.out, ?_, HB.out⟩
        rw [show decide (i < n ∧ (A i).2.1 = y) = false by simp only [decide_eq_false_iff_not]; exact fun h => hin h.1]
        rfl

/-- 'through': how many are at most y. -/
theorem through_any (d h n cap : Nat) (A : Nat → Arr) (y : Int) (w : World) (hn : n ≤ 1024) (hcap : n ≤ cap) (hh : h < w.heap.size) (hH : Holds w h n A) (hsort : ∀ t u, t < u → u < n → (A t).2.1 < (A u).2.1)
    (h1 : w.cell? ⟨d, 1, none⟩ = some (.slice (some ⟨h, 0, none⟩) n cap)) :
    Calls Yba.prog 6 #[.pointer (some ⟨d, 0, none⟩), .int .u64 y] w fun e w' =>
      ∃ j : Nat, j ≤ n ∧ (∀ t, t < j → (A t).2.1 ≤ y) ∧ (∀ t, j ≤ t → t < n → y < (A t).2.1) ∧ e = .returned (.int .i64 j) ∧ Below w.heap.size w w' := by
  have HC := hide (search_any h n cap A y w hn hcap hh hH hsort)
  have HS := hide hsort
  clear hsort hH
  go_enter Yba.func6, Yba.ntmps6
  go_wp2_with fail
  refine HC.out.mono ?_
  rintro e w' ⟨i, hi, hlo, hhi, rfl, hb⟩
  have HLO := hide hlo
  have HHI := hide hhi
  have HB := hide hb
  clear hlo hhi hb
  by_cases hq : i < n ∧ (A i).2.1 = y
  · rw [show decide (i < n ∧ (A i).2.1 = y) = true by simp only [decide_eq_true_eq]; exact hq]
    obtain ⟨hin, hqe⟩ := hq
    have HQ := hide hqe
    clear hqe
    go_wp2
    go_ret
    refine ⟨i + 1, by omega, fun t ht => ?_, fun t h1 h2 => ?_, by go_num, HB.out⟩
    · rcases Nat.lt_or_ge t i with h | h
      · have := HLO.out t h; omega
      · rw [show t = i by omega, HQ.out]; exact Int.le_refl _
    · have := HS.out i t (by omega) h2
      rw [HQ.out] at this; exact this
  · rw [show decide (i < n ∧ (A i).2.1 = y) = false by simp only [decide_eq_false_iff_not]; exact hq]
    have HQ := hide hq
    clear hq
    go_wp2
    go_ret
    refine ⟨i, hi, fun t ht => ?_, fun t h1 h2 => ?_, rfl, HB.out⟩
    · have := HLO.out t ht; omega
    · have h3 := HHI.out t h1 h2
      rcases Nat.lt_or_ge i t with h | h
      · have := HS.out i t h h2
        have := HHI.out i (Nat.le_refl _) (by omega)
        omega
      · obtain rfl : t = i := by omega
        have : ¬ (A t).2.1 = y := fun e => HQ.out ⟨h2, e⟩
        omega
end Go.Proofs.Ybulkqu
