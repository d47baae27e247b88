import Derived.Test.YbulkocS3
namespace Go.Proofs.Ybulkoc
set_option linter.unusedVariables false
open Go.RowKit

/-- Two ranges of k elements change places. -/
def swr (L : Nat → E) (a b k : Nat) : Nat → E := fun t => if a ≤ t ∧ t < a + k then L (b + (t - a)) else if b ≤ t ∧ t < b + k then L (a + (t - b)) else L t

theorem swr_zero (L : Nat → E) (a b : Nat) : swr L a b 0 = L := by
  funext t
  unfold swr
  rw [if_neg (by omega), if_neg (by omega)]
theorem swr_succ (L : Nat → E) (a b i : Nat) (h : a + i < b) : swp (swr L a b i) (a + i) (b + i) = swr L a b (i + 1) := by
  funext t
  unfold swp swr
  by_cases h1 : t = a + i
  · subst h1
    rw [if_pos rfl, if_neg (by omega), if_neg (by omega), if_pos (by omega), show b + (a + i - a) = b + i by omega]
  · rw [if_neg h1]
    by_cases h2 : t = b + i
    · subst h2
      rw [if_pos rfl, if_neg (by omega), if_neg (by omega), if_neg (by omega), if_pos (by omega), show a + (b + i - b) = a + i by omega]
    · rw [if_neg h2]
      by_cases h3 : a ≤ t ∧ t < a + i
      · have c1 : a ≤ t ∧ t < a + (i + 1) := by omega
        rw [if_pos h3, if_pos c1]
      · have c1 : ¬ (a ≤ t ∧ t < a + (i + 1)) := by omega
        by_cases h4 : b ≤ t ∧ t < b + i
        · have c2 : b ≤ t ∧ t < b + (i + 1) := by omega
          rw [if_neg h3, if_pos h4, if_neg c1, if_pos c2]
        · have c2 : ¬ (b ≤ t ∧ t < b + (i + 1)) := by omega
          rw [if_neg h3, if_neg h4, if_neg c1, if_neg c2]

set_option maxRecDepth 100000 in
set_option maxHeartbeats 2000000 in
theorem swapRange_any (g n cap a b k : Nat) (L : Nat → E) (w : World) (hn : n ≤ 4096) (hcap : n ≤ cap) (hab : a + k ≤ b) (hb : b + k ≤ n) (hS : St w g n L) (f : Value) :
    Calls Yba.prog 17 #[.slice (some ⟨g, 0, none⟩) n cap, .int .i64 a, .int .i64 b, .int .i64 k, f] w fun e w' => e = .returned (.tuple #[]) ∧ St w' g n (swr L a b k) ∧ Oth g w w' := by
  have HS0 := hide hS
  clear hS
  go_enter Yba.func17, Yba.ntmps17
  go_wp2_with fail
  go_loopw [10] (fun iv wr => ∃ i : Nat, iv = .int .i64 i ∧ i ≤ k ∧ St wr g n (swr L a b i) ∧ Oth g w wr) (fun iv _ => k - (intOf iv).toNat)
  case atStart => exact ⟨0, rfl, Nat.zero_le _, by rw [swr_zero]; exact HS0.out, Oth.refl _ _⟩
  case round =>
    obtain ⟨i, rfl, hik, hSt, hOt⟩ := hrel
    by_cases hlt : i < k
    · have hsu := swr_succ L a b i (by omega)
      have HSU := hide hsu
      clear hsu
      generalize hM : swr L a b i = M at *
      clear hM
      have k0 := hSt.at0 (a + i) (by omega)
      have k1 := hSt.at1 (a + i) (by omega)
      have k2 := hSt.at0 (b + i) (by omega)
      have k3 := hSt.at1 (b + i) (by omega)
      have f0 := hSt.free ((a + i) * 2)
      have f1 := hSt.free ((a + i) * 2 + 1)
      have f2 := hSt.free ((b + i) * 2)
      have f3 := hSt.free ((b + i) * 2 + 1)
      have i1 : (a : Int) + (i : Int) < (n : Int) := by omega
      have i2 : (b : Int) + (i : Int) < (n : Int) := by omega
      have i3 : (0 : Int) ≤ (a : Int) + (i : Int) := by omega
      have i4 : (0 : Int) ≤ (b : Int) + (i : Int) := by omega
      have i5 : a + i < n := by omega
      have i6 : b + i < n := by omega
      have i7 : ¬ a + i = b + i := by omega
      have i8 : ¬ a = b := by omega
      have HS2 := hide hSt
      have HO2 := hide hOt
      clear hSt hOt
      go_wp2_with fail
      go_region
      all_goals
        have HS3 := hide (HS2.out.swap (a + i) (b + i) (by omega) (by omega) (by omega))
        have HO3 : Hid (Oth g w ((((wr.setCell ⟨g, (a + i) * 2, none⟩ (.int .i64 (M (b + i)).1)).setCell ⟨g, (a + i) * 2 + 1, none⟩ (.pointer (M (b + i)).2.1)).setCell ⟨g, (b + i) * 2, none⟩ (.int .i64 (M (a + i)).1)).setCell ⟨g, (b + i) * 2 + 1, none⟩ (.pointer (M (a + i)).2.1))) :=
          HO2.out.trans ((((Oth.setCell g _ _ _).trans (Oth.setCell g _ _ _)).trans (Oth.setCell g _ _ _)).trans (Oth.setCell g _ _ _))
        clear k0 k1 k2 k3 f0 f1 f2 f3
        go_wp2
        go_roundw
        case rel => exact ⟨i + 1, by go_num, by omega, by rw [← HSU.out]; exact HS3.out.drew, HO3.out.drew⟩
        case measure => simp [intOf]; omega
    · obtain rfl : i = k := by omega
      go_wp2
      go_end0
      exact ⟨rfl, hSt, hOt⟩

/-- Two neighbouring ranges, of i and j elements, the first from x on, change places. -/
def rot (L : Nat → E) (x i j : Nat) : Nat → E := fun t => if x ≤ t ∧ t < x + j then L (t + i) else if x + j ≤ t ∧ t < x + j + i then L (t - j) else L t

theorem rot_eq (L : Nat → E) (x i : Nat) : swr L x (x + i) i = rot L x i i := by
  funext t
  unfold swr rot
  by_cases h1 : x ≤ t ∧ t < x + i
  · rw [if_pos h1, if_pos h1, show x + i + (t - x) = t + i by omega]
  · rw [if_neg h1, if_neg h1]
    by_cases h2 : x + i ≤ t ∧ t < x + i + i
    · rw [if_pos h2, if_pos h2, show x + (t - (x + i)) = t - i by omega]
    · rw [if_neg h2, if_neg h2]
/-- the left range is the longer one: its first j elements go to their place; what is left is a rotation again. -/
theorem rot_left (L : Nat → E) (x i j : Nat) (hj : 0 < j) (h : j < i) : rot (swr L x (x + i) j) (x + j) (i - j) j = rot L x i j := by
  funext t
  unfold rot swr
  by_cases h1 : x ≤ t ∧ t < x + j
  · have c1 : ¬ (x + j ≤ t ∧ t < x + j + j) := by omega
    have c2 : ¬ (x + j + j ≤ t ∧ t < x + j + j + (i - j)) := by omega
    rw [if_neg c1, if_neg c2, if_pos h1, if_pos h1, show x + i + (t - x) = t + i by omega]
  · rw [if_neg h1]
    by_cases h2 : x + j ≤ t ∧ t < x + j + i
    · rw [if_pos h2]
      by_cases h3 : x + j ≤ t ∧ t < x + j + j
      · have c1 : ¬ (x ≤ t + (i - j) ∧ t + (i - j) < x + j) := by omega
        have c2 : x + i ≤ t + (i - j) ∧ t + (i - j) < x + i + j := by omega
        rw [if_pos h3, if_neg c1, if_pos c2, if_neg h1, show x + (t + (i - j) - (x + i)) = t - j by omega]
      · have c0 : x + j + j ≤ t ∧ t < x + j + j + (i - j) := by omega
        have c1 : ¬ (x ≤ t - j ∧ t - j < x + j) := by omega
        have c2 : ¬ (x + i ≤ t - j ∧ t - j < x + i + j) := by omega
        rw [if_neg h3, if_pos c0, if_neg c1, if_neg c2, if_neg h1]
    · have c1 : ¬ (x + j ≤ t ∧ t < x + j + j) := by omega
      have c2 : ¬ (x + j + j ≤ t ∧ t < x + j + j + (i - j)) := by omega
      have c3 : ¬ (x + i ≤ t ∧ t < x + i + j) := by omega
      rw [if_neg h2, if_neg c1, if_neg c2, if_neg h1, if_neg c3]
theorem rot_right (L : Nat → E) (x i j : Nat) (hi : 0 < i) (h : i < j) : rot (swr L x (x + j) i) x i (j - i) = rot L x i j := by
  funext t
  unfold rot swr
  by_cases h1 : x ≤ t ∧ t < x + (j - i)
  · have d1 : x ≤ t ∧ t < x + j := by omega
    have c1 : ¬ (x ≤ t + i ∧ t + i < x + i) := by omega
    have c2 : ¬ (x + j ≤ t + i ∧ t + i < x + j + i) := by omega
    rw [if_pos h1, if_pos d1, if_neg c1, if_neg c2]
  · rw [if_neg h1]
    by_cases h2 : x + (j - i) ≤ t ∧ t < x + (j - i) + i
    · have d1 : x ≤ t ∧ t < x + j := by omega
      have c1 : x ≤ t - (j - i) ∧ t - (j - i) < x + i := by omega
      rw [if_pos h2, if_pos d1, if_pos c1, show x + j + (t - (j - i) - x) = t + i by omega]
    · rw [if_neg h2]
      by_cases h3 : x + j ≤ t ∧ t < x + j + i
      · have d1 : ¬ (x ≤ t ∧ t < x + j) := by omega
        have c1 : ¬ (x ≤ t ∧ t < x + i) := by omega
        rw [if_neg d1, if_pos h3, if_neg c1, if_pos h3, show x + (t - (x + j)) = t - j by omega]
      · have d1 : ¬ (x ≤ t ∧ t < x + j) := by omega
        have c1 : ¬ (x ≤ t ∧ t < x + i) := by omega
        rw [if_neg d1, if_neg h3, if_neg c1, if_neg h3]

theorem Shuf.rot {a b x i j : Nat} (L : Nat → E) (ha : a ≤ x) (hb : x + i + j ≤ b) : Shuf a b L (rot L x i j) := by
  refine ⟨fun t => if x ≤ t ∧ t < x + j then t + i else if x + j ≤ t ∧ t < x + j + i then t - j else t, fun t => if x ≤ t ∧ t < x + i then t + j else if x + i ≤ t ∧ t < x + i + j then t - i else t, fun t => ?_, fun t => ?_, fun t ht => ?_, fun t => ?_⟩
  · show (if _ then _ else if _ then _ else _) = t
    by_cases h1 : x ≤ t ∧ t < x + i
    · simp only [h1, and_self, if_true]
      have c1 : ¬ (x ≤ t + j ∧ t + j < x + j) := by omega
      have c2 : x + j ≤ t + j ∧ t + j < x + j + i := by omega
      rw [if_neg c1, if_pos c2]; omega
    · simp only [h1, if_false]
      by_cases h2 : x + i ≤ t ∧ t < x + i + j
      · simp only [h2, and_self, if_true]
        have c1 : x ≤ t - i ∧ t - i < x + j := by omega
        rw [if_pos c1]; omega
      · simp only [h2, if_false]
        have c1 : ¬ (x ≤ t ∧ t < x + j) := by omega
        have c2 : ¬ (x + j ≤ t ∧ t < x + j + i) := by omega
        rw [if_neg c1, if_neg c2]
  · show (if _ then _ else if _ then _ else _) = t
    by_cases h1 : x ≤ t ∧ t < x + j
    · simp only [h1, and_self, if_true]
      have c1 : ¬ (x ≤ t + i ∧ t + i < x + i) := by omega
      have c2 : x + i ≤ t + i ∧ t + i < x + i + j := by omega
      rw [if_neg c1, if_pos c2]; omega
    · simp only [h1, if_false]
      by_cases h2 : x + j ≤ t ∧ t < x + j + i
      · simp only [h2, and_self, if_true]
        have c1 : x ≤ t - j ∧ t - j < x + i := by omega
        rw [if_pos c1]; omega
      · simp only [h2, if_false]
        have c1 : ¬ (x ≤ t ∧ t < x + i) := by omega
        have c2 : ¬ (x + i ≤ t ∧ t < x + i + j) := by omega
        rw [if_neg c1, if_neg c2]
  · show (if _ then _ else if _ then _ else _) = t
    have c1 : ¬ (x ≤ t ∧ t < x + j) := by omega
    have c2 : ¬ (x + j ≤ t ∧ t < x + j + i) := by omega
    rw [if_neg c1, if_neg c2]
  · show _ = L (if _ then _ else if _ then _ else _)
    unfold Ybulkoc.rot
    split
    · rfl
    · split <;> rfl

set_option maxRecDepth 100000 in
set_option maxHeartbeats 2000000 in
theorem rotate_any (g n cap a m b : Nat) (L : Nat → E) (w : World) (hn : n ≤ 4096) (hcap : n ≤ cap) (ham : a < m) (hmb : m < b) (hb : b ≤ n) (hS : St w g n L) (f : Value) :
    Calls Yba.prog 16 #[.slice (some ⟨g, 0, none⟩) n cap, .int .i64 a, .int .i64 m, .int .i64 b, f] w fun e w' => e = .returned (.tuple #[]) ∧ St w' g n (rot L a (m - a) (b - m)) ∧ Oth g w w' := by
  have HS0 := hide hS
  clear hS
  go_enter Yba.func16, Yba.ntmps16
  go_wp2_with fail
  go_loopw [10, 11] (fun iv jv wr => ∃ (i j : Nat) (M : Nat → E), iv = .int .i64 i ∧ jv = .int .i64 j ∧ 0 < i ∧ 0 < j ∧ i ≤ m - a ∧ j ≤ b - m ∧ St wr g n M ∧ rot M (m - i) i j = rot L a (m - a) (b - m) ∧ Oth g w wr) (fun iv jv _ => (intOf iv).toNat + (intOf jv).toNat)
  case atStart => exact ⟨m - a, b - m, L, by go_num, by go_num, by omega, by omega, Nat.le_refl _, Nat.le_refl _, HS0.out, by rw [show m - (m - a) = a by omega], Oth.refl _ _⟩
  case round =>
    obtain ⟨i, j, M, rfl, rfl, hi0, hj0, hia, hjb, hSt, hRo, hOt⟩ := hrel
    have HS2 := hide hSt
    have HRo := hide hRo
    have HO2 := hide hOt
    clear hSt hRo hOt
    by_cases heq : i = j
    · subst heq
      go_wp2_with fail
      rw [show (m : Int) - (i : Int) = ((m - i : Nat) : Int) by omega]
      refine (swapRange_any g n cap (m - i) m i M _ hn hcap (by omega) (by omega) HS2.out _).mono ?_
      rintro e w2 ⟨rfl, hS3, hO3⟩
      have HS3 := hide hS3
      have HO3 := hide hO3
      clear hS3 hO3
      go_wp2
      go_end0
      refine ⟨rfl, ?_, HO2.out.trans HO3.out⟩
      have := HS3.out
      rw [show swr M (m - i) m i = rot L a (m - a) (b - m) by rw [← HRo.out, ← rot_eq, show m - i + i = m by omega]] at this
      exact this
    · have hne : ((i : Int) != (j : Int)) = true := by simp; omega
      by_cases hgt : j < i
      · go_wp2_with fail
        rw [show (m : Int) - (i : Int) = ((m - i : Nat) : Int) by omega]
        refine (swapRange_any g n cap (m - i) m j M _ hn hcap (by omega) (by omega) HS2.out _).mono ?_
        rintro e w2 ⟨rfl, hS3, hO3⟩
        have HS3 := hide hS3
        have HO3 := hide hO3
        clear hS3 hO3
        go_wp2
        go_roundw
        case rel =>
          refine ⟨i - j, j, swr M (m - i) m j, by go_num, rfl, by omega, hj0, by omega, hjb, HS3.out, ?_, HO2.out.trans HO3.out⟩
          rw [← HRo.out, ← rot_left M (m - i) i j hj0 hgt, show m - (i - j) = m - i + j by omega, show m - i + i = m by omega]
        case measure => simp [intOf]; omega
      · have hlt : i < j := by omega
        go_wp2_with fail
        rw [show (m : Int) + (j : Int) - (i : Int) = ((m + j - i : Nat) : Int) by omega, show (m : Int) - (i : Int) = ((m - i : Nat) : Int) by omega]
        refine (swapRange_any g n cap (m - i) (m + j - i) i M _ hn hcap (by omega) (by omega) HS2.out _).mono ?_
        rintro e w2 ⟨rfl, hS3, hO3⟩
        have HS3 := hide hS3
        have HO3 := hide hO3
        clear hS3 hO3
        go_wp2
        go_roundw
        case rel =>
          refine ⟨i, j - i, swr M (m - i) (m + j - i) i, rfl, by go_num, hi0, by omega, hia, by omega, HS3.out, ?_, HO2.out.trans HO3.out⟩
          rw [← HRo.out, ← rot_right M (m - i) i j hi0 hlt, show m + j - i = m - i + j by omega]
        case measure => simp [intOf]; omega
end Go.Proofs.Ybulkoc
