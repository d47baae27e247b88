import Derived.Test.YbulkocS6
namespace Go.Proofs.Ybulkoc
set_option linter.unusedVariables false
open Go.RowKit


set_option maxRecDepth 100000 in
set_option maxHeartbeats 2000000 in
theorem symLast (g n cap a m b : Nat) (L : Nat → E) (w : World) (hn : n ≤ 4096) (hcap : n ≤ cap) (hma : a + 1 < m) (hbm : b = m + 1) (hb : b ≤ n) (hS : St w g n L) (hso : Sorted L a m) (hmk : Mks L a m (m + 1)) :
    SymOk g n cap a m b L w := by
  unfold SymOk
  have HS0 := hide hS
  have HSo := hide hso
  have HMk := hide hmk
  clear hS hso hmk
  go_enter Yba.func15, Yba.ntmps15
  have hbm1 : b ≤ m + 1 := by omega
  have hbm2 : m + 1 ≤ b := by omega
  clear hbm
  have hone : (((m : Int) - (a : Int)) == 1) = false := by simp; omega
  have hone2 : (((b : Int) - (m : Int)) == 1) = true := by simp; omega
  go_wp2_with fail
  clear hone hone2
  go_loopw [14, 15] (fun iv jv wr => ∃ i j : Nat, iv = .int .i64 i ∧ jv = .int .i64 j ∧ a ≤ i ∧ i ≤ j ∧ j ≤ m ∧ (i = a ∨ (L (i - 1)).1 ≤ (L m).1) ∧ (j = m ∨ (L m).1 < (L j).1) ∧ St wr g n L ∧ Oth g w wr) (fun iv jv _ => (intOf jv).toNat - (intOf iv).toNat)
  case atStart => exact ⟨a, m, rfl, rfl, Nat.le_refl _, by omega, Nat.le_refl _, Or.inl rfl, Or.inl rfl, HS0.out, Oth.refl _ _⟩
  case round =>
    obtain ⟨i, j, rfl, rfl, hai, hij, hjb, hl, hr, hSt, hOt⟩ := hrel
    have HSt := hide hSt
    have HOt := hide hOt
    have HL := hide hl
    have HR := hide hr
    clear hl hr
    by_cases hlt : i < j
    · obtain ⟨h, hh⟩ : ∃ h : Nat, ((i : Int) + (j : Int)) / 2 = (h : Int) := ⟨(i + j) / 2, by omega⟩
      have hih : i ≤ h := by omega
      have hhj : h < j := by omega
      have c0 := hSt.at0 h (by omega)
      have c1 := hSt.at1 h (by omega)
      have c2 := hSt.at0 m (by omega)
      have c3 := hSt.at1 m (by omega)
      have i1 : (h : Int) < (n : Int) := by omega
      have i2 : (m : Int) < (n : Int) := by omega
      have i3 : h < n := by omega
      have i4 : m < n := by omega
      have w2 : IntKind.i64.wrap (h : Int) = h := wrapN _ (by omega) (by omega)
      have hgz := hSt.lt
      clear hSt hOt
      go_wp2_with fail
      go_region_held3 (fun w' => w'.cell? ⟨g, h * 2, none⟩ = some (.int .i64 (L h).1) ∧ w'.cell? ⟨g, h * 2 + 1, none⟩ = some (.pointer (L h).2.1) ∧ w'.cell? ⟨g, m * 2, none⟩ = some (.int .i64 (L m).1) ∧ w'.cell? ⟨g, m * 2 + 1, none⟩ = some (.pointer (L m).2.1))
        (first | go_keep | (refine ⟨?_, ?_, ?_, ?_⟩ <;> (rw [hb2.cell (by simpa using hgz)]; assumption)))
        (first | (go_at_call 9; refine (cmpStop_any _ _ _ _ _).mono ?_; rintro e w2 ⟨rfl, hb2⟩))
      have HB2 : Hid (Below wr.heap.size wr w2) := ((Below.refl _ wr).drew).trans hb2
      have HS2 : Hid (St w2 g n L) := HSt.out.below HB2.out hgz
      have HO2 : Hid (Oth g w w2) := HOt.out.trans (Oth.ofBelow HB2.out)
      clear hb2 c0 c1 c2 c3
      by_cases hk : (L m).1 < (L h).1
      · rw [show cmpI (L m).1 (L h).1 = -1 by simp [cmpI, hk]]
        go_wp2
        go_roundw
        case rel => exact ⟨i, h, rfl, rfl, hai, hih, by omega, HL.out, Or.inr (by omega), HS2.out, HO2.out⟩
        case measure => simp [intOf]; omega
      · obtain ⟨cv, hcv, hc0⟩ : ∃ cv, cmpI (L m).1 (L h).1 = cv ∧ 0 ≤ cv := ⟨_, rfl, by simp only [cmpI, hk, if_false]; split <;> decide⟩
        rw [hcv]
        clear hcv
        go_wp2
        go_roundw
        case rel => exact ⟨h + 1, j, by go_num, rfl, by omega, by omega, hjb, Or.inr (by rw [Nat.add_sub_cancel]; omega), HR.out, HS2.out, HO2.out⟩
        case measure => simp [intOf]; omega
        exfalso
        rename_i hx
        simp at hx
        omega
    · obtain rfl : i = j := by omega
      clear hSt hOt
      have HSO : Hid (Sorted (rot L i (m - i) 1) a (m + 1)) := merge_last HSo.out HMk.out hai hjb (Or.elim HL.out Or.inl (fun h => Or.inr (by omega))) HR.out
      go_wp2_with fail
      go_loopw [17] (fun kv wr => ∃ k : Nat, kv = .int .i64 k ∧ i ≤ k ∧ k ≤ m ∧ St wr g n (rot L k (m - k) 1) ∧ Oth g w wr) (fun kv _ => (intOf kv).toNat)
      case atStart => exact ⟨m, rfl, by omega, Nat.le_refl _, by rw [Nat.sub_self, rot_nil]; exact HSt.out, HOt.out⟩
      case round =>
        obtain ⟨k, rfl, hki, hkm, hSt, hOt⟩ := hrel
        by_cases hlt : i < k
        · obtain ⟨v, rfl⟩ : ∃ v, k = v + 1 := ⟨k - 1, by omega⟩
          have hsu := rot_stepL L v (m - (v + 1))
          rw [show m - (v + 1) + 1 = m - v by omega] at hsu
          have HSU := hide hsu
          clear hsu
          generalize hM : rot L (v + 1) (m - (v + 1)) 1 = M at *
          clear hM
          have hd : decide ((i : Int) < (v : Int) + 1) = true := by simp; omega
          have HS2 := hide hSt
          have HO2 := hide hOt
          have k0 := hSt.at0 (v + 1) (by omega)
          have k1 := hSt.at1 (v + 1) (by omega)
          have k2 := hSt.at0 v (by omega)
          have k3 := hSt.at1 v (by omega)
          have f0 := hSt.free ((v + 1) * 2)
          have f1 := hSt.free ((v + 1) * 2 + 1)
          have f2 := hSt.free (v * 2)
          have f3 := hSt.free (v * 2 + 1)
          clear hSt hOt
          have i1 : (v : Int) < (n : Int) := by omega
          have i2 : (v : Int) + 1 < (n : Int) := by omega
          have i4 : (0 : Int) ≤ (v : Int) + 1 := by omega
          have i5 : v < n := by omega
          have i6 : v + 1 < n := by omega
          have w1 : IntKind.i64.wrap ((v : Int) + 1 - 1) = v := by rw [wrapN _ (by omega) (by omega)]; omega
          have w2 : IntKind.i64.wrap (v : Int) = v := wrapN _ (by omega) (by omega)
          go_wp2_with fail
          go_region
          all_goals
            have HS3 := hide (HS2.out.swap (v + 1) v (by omega) (by omega) (by omega))
            have HO3 : Hid (Oth g w ((((wr.setCell ⟨g, (v + 1) * 2, none⟩ (.int .i64 (M v).1)).setCell ⟨g, (v + 1) * 2 + 1, none⟩ (.pointer (M v).2.1)).setCell ⟨g, v * 2, none⟩ (.int .i64 (M (v + 1)).1)).setCell ⟨g, v * 2 + 1, none⟩ (.pointer (M (v + 1)).2.1))) :=
              HO2.out.trans ((((Oth.setCell g _ _ _).trans (Oth.setCell g _ _ _)).trans (Oth.setCell g _ _ _)).trans (Oth.setCell g _ _ _))
            clear k0 k1 k2 k3 f0 f1 f2 f3
            go_wp2
            go_roundw
            case rel => exact ⟨v, by go_num, by omega, by omega, by rw [← HSU.out]; exact HS3.out.drew, HO3.out.drew⟩
            case measure => simp [intOf]
        · have hd : decide ((i : Int) < (k : Int)) = false := by simp; omega
          have HS2 := hide hSt
          have HO2 := hide hOt
          clear hSt hOt
          obtain rfl : k = i := by omega
          go_wp2
          exact bodyPost_ret (results_none (by rfl) _ _ _) rfl ⟨rfl, _, HS2.out, Shuf.rot L hai (by omega), by rw [show b = m + 1 by omega]; exact HSO.out, HO2.out⟩
end Go.Proofs.Ybulkoc
