import Derived.Test.YbulkocS5
namespace Go.Proofs.Ybulkoc
set_option linter.unusedVariables false
open Go.RowKit

/-- What 'symMerge' is to do. -/
def SymOk (g n cap : Nat) (a m b : Nat) (L : Nat → E) (w : World) : Prop :=
  Calls Yba.prog 15 #[.slice (some ⟨g, 0, none⟩) n cap, .int .i64 a, .int .i64 m, .int .i64 b, .func (.func 9) #[] #[]] w fun e w' => e = .returned (.tuple #[]) ∧
      ∃ L', St w' g n L' ∧ Shuf a b L L' ∧ Sorted L' a b ∧ Oth g w w'

set_option maxRecDepth 100000 in
set_option maxHeartbeats 2000000 in
theorem symOne (g n cap a m b : Nat) (L : Nat → E) (w : World) (hn : n ≤ 4096) (hcap : n ≤ cap) (hma : m = a + 1) (hab : a + 1 < b) (hb : b ≤ n) (hS : St w g n L) (hso : Sorted L (a + 1) b) (hmk : Mks L a (a + 1) b) :
    SymOk g n cap a m b L w := by
  unfold SymOk
  have HS0 := hide hS
  have HSo := hide hso
  have HMk := hide hmk
  clear hS hso hmk
  go_enter Yba.func15, Yba.ntmps15
  have hma1 : m ≤ a + 1 := by omega
  have hma2 : a + 1 ≤ m := by omega
  clear hma
  have hone : (((m : Int) - (a : Int)) == 1) = true := by simp; omega
  go_wp2_with fail
  clear hone
  go_loopw [10, 11] (fun iv jv wr => ∃ i j : Nat, iv = .int .i64 i ∧ jv = .int .i64 j ∧ a + 1 ≤ i ∧ i ≤ j ∧ j ≤ b ∧ (i = a + 1 ∨ (L (i - 1)).1 < (L a).1) ∧ (j = b ∨ (L a).1 ≤ (L j).1) ∧ St wr g n L ∧ Oth g w wr) (fun iv jv _ => (intOf jv).toNat - (intOf iv).toNat)
  case atStart =>
    have hma : m = a + 1 := by omega
    exact ⟨m, b, rfl, rfl, by omega, by omega, Nat.le_refl _, Or.inl hma, Or.inl rfl, HS0.out, Oth.refl _ _⟩
  case round =>
    obtain ⟨i, j, rfl, rfl, hai, hij, hjb, hl, hr, hSt, hOt⟩ := hrel
    have HSt := hide hSt
    have HOt := hide hOt
    have HL := hide hl
    have HR := hide hr
    clear hl hr
    by_cases hlt : i < j
    · obtain ⟨h, hh⟩ : ∃ h : Nat, ((i : Int) + (j : Int)) / 2 = (h : Int) := ⟨(i + j) / 2, by omega⟩
      have hih : i ≤ h := by omega
      have hhj : h < j := by omega
      have c0 := hSt.at0 h (by omega)
      have c1 := hSt.at1 h (by omega)
      have c2 := hSt.at0 a (by omega)
      have c3 := hSt.at1 a (by omega)
      have i1 : (h : Int) < (n : Int) := by omega
      have i2 : (a : Int) < (n : Int) := by omega
      have i3 : h < n := by omega
      have i4 : a < n := by omega
      have w2 : IntKind.i64.wrap (h : Int) = h := wrapN _ (by omega) (by omega)
      have hgz := hSt.lt
      clear hSt hOt
      go_wp2_with fail
      go_region_held3 (fun w' => w'.cell? ⟨g, h * 2, none⟩ = some (.int .i64 (L h).1) ∧ w'.cell? ⟨g, h * 2 + 1, none⟩ = some (.pointer (L h).2.1) ∧ w'.cell? ⟨g, a * 2, none⟩ = some (.int .i64 (L a).1) ∧ w'.cell? ⟨g, a * 2 + 1, none⟩ = some (.pointer (L a).2.1))
        (first | go_keep | (refine ⟨?_, ?_, ?_, ?_⟩ <;> (rw [hb2.cell (by simpa using hgz)]; assumption)))
        (first | (go_at_call 9; refine (cmpStop_any _ _ _ _ _).mono ?_; rintro e w2 ⟨rfl, hb2⟩))
      have HB2 : Hid (Below wr.heap.size wr w2) := ((Below.refl _ wr).drew).trans hb2
      have HS2 : Hid (St w2 g n L) := HSt.out.below HB2.out hgz
      have HO2 : Hid (Oth g w w2) := HOt.out.trans (Oth.ofBelow HB2.out)
      clear hb2 c0 c1 c2 c3
      by_cases hk : (L h).1 < (L a).1
      · rw [show cmpI (L h).1 (L a).1 = -1 by simp [cmpI, hk]]
        go_wp2
        go_roundw
        case rel => exact ⟨h + 1, j, by go_num, rfl, by omega, by omega, hjb, Or.inr (by simpa using hk), HR.out, HS2.out, HO2.out⟩
        case measure => simp [intOf]; omega
      · obtain ⟨cv, hcv, hc0⟩ : ∃ cv, cmpI (L h).1 (L a).1 = cv ∧ 0 ≤ cv := ⟨_, rfl, by simp only [cmpI, hk, if_false]; split <;> decide⟩
        rw [hcv]
        clear hcv
        go_wp2
        go_roundw
        case rel => exact ⟨i, h, rfl, rfl, hai, hih, by omega, HL.out, Or.inr (by omega), HS2.out, HO2.out⟩
        case measure => simp [intOf]; omega
    · obtain rfl : i = j := by omega
      clear hSt hOt
      have HSO : Hid (Sorted (rot L a 1 (i - 1 - a)) a b) := merge_one HSo.out HMk.out hai hjb HL.out (Or.elim HR.out Or.inl (fun h => Or.inr (by omega)))
      go_wp2_with fail
      go_loopw [13] (fun kv wr => ∃ k : Nat, kv = .int .i64 (a + k : Nat) ∧ a + k + 1 ≤ i ∧ St wr g n (rot L a 1 k) ∧ Oth g w wr) (fun kv _ => i - (intOf kv).toNat)
      case atStart => exact ⟨0, by go_num, by omega, by rw [rot_nil']; exact HSt.out, HOt.out⟩
      case round =>
        obtain ⟨k, rfl, hki, hSt, hOt⟩ := hrel
        by_cases hlt : a + k + 1 < i
        · have hsu := rot_stepR L a k
          have HSU := hide hsu
          clear hsu
          generalize hM : rot L a 1 k = M at *
          clear hM
          have hd : decide (((a + k : Nat) : Int) < (i : Int) - 1) = true := by simp; omega
          have HS2 := hide hSt
          have HO2 := hide hOt
          have k0 := hSt.at0 (a + k) (by omega)
          have k1 := hSt.at1 (a + k) (by omega)
          have k2 := hSt.at0 (a + k + 1) (by omega)
          have k3 := hSt.at1 (a + k + 1) (by omega)
          have f0 := hSt.free ((a + k) * 2)
          have f1 := hSt.free ((a + k) * 2 + 1)
          have f2 := hSt.free ((a + k + 1) * 2)
          have f3 := hSt.free ((a + k + 1) * 2 + 1)
          clear hSt hOt
          generalize hv : a + k = v at *
          have i1 : (v : Int) < (n : Int) := by omega
          have i2 : (v : Int) + 1 < (n : Int) := by omega
          have i4 : (0 : Int) ≤ (v : Int) + 1 := by omega
          have i5 : v < n := by omega
          have i6 : v + 1 < n := by omega
          go_wp2_with fail
          go_region
          all_goals
            have HS3 := hide (HS2.out.swap v (v + 1) (by omega) (by omega) (by omega))
            have HO3 : Hid (Oth g w ((((wr.setCell ⟨g, v * 2, none⟩ (.int .i64 (M (v + 1)).1)).setCell ⟨g, v * 2 + 1, none⟩ (.pointer (M (v + 1)).2.1)).setCell ⟨g, (v + 1) * 2, none⟩ (.int .i64 (M v).1)).setCell ⟨g, (v + 1) * 2 + 1, none⟩ (.pointer (M v).2.1))) :=
              HO2.out.trans ((((Oth.setCell g _ _ _).trans (Oth.setCell g _ _ _)).trans (Oth.setCell g _ _ _)).trans (Oth.setCell g _ _ _))
            clear k0 k1 k2 k3 f0 f1 f2 f3
            go_wp2
            go_roundw
            case rel => exact ⟨k + 1, by rw [← hv]; go_num, by omega, by rw [← HSU.out]; exact HS3.out.drew, HO3.out.drew⟩
            case measure => simp [intOf]; omega
        · have hd : decide (((a + k : Nat) : Int) < (i : Int) - 1) = false := by simp; omega
          have HS2 := hide hSt
          have HO2 := hide hOt
          clear hSt hOt
          obtain rfl : k = i - 1 - a := by omega
          go_wp2
          exact bodyPost_ret (results_none (by rfl) _ _ _) rfl ⟨rfl, _, HS2.out, Shuf.rot L (Nat.le_refl _) (by omega), HSO.out, HO2.out⟩
end Go.Proofs.Ybulkoc
