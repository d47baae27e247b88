import Derived.Test.YbulkocS2
import Derived.Deep.RegionHeld3
namespace Go.Proofs.Ybulkoc
set_option linter.unusedVariables false
open Go.RowKit

set_option maxRecDepth 100000 in
set_option maxHeartbeats 2000000 in
theorem insertion_any (g n cap a b : Nat) (L : Nat → E) (w : World) (hn : n ≤ 4096) (hcap : n ≤ cap) (ha : a ≤ n) (hb : b ≤ n) (hS : St w g n L) (hR : Rising L a b) :
    Calls Yba.prog 14 #[.slice (some ⟨g, 0, none⟩) n cap, .int .i64 a, .int .i64 b, .func (.func 9) #[] #[]] w fun e w' => e = .returned (.tuple #[]) ∧
      ∃ L', St w' g n L' ∧ Shuf a b L L' ∧ Sorted L' a b ∧ Oth g w w' := by
  have HS0 := hide hS
  have HR := hide hR
  clear hS hR
  go_enter Yba.func14, Yba.ntmps14
  go_wp2_with fail
  go_loopw [8] (fun iv wr => ∃ (i : Nat) (M : Nat → E), iv = .int .i64 i ∧ a + 1 ≤ i ∧ (i ≤ b ∨ i = a + 1) ∧ St wr g n M ∧ Shuf a i L M ∧ Sorted M a i ∧ Oth g w wr) (fun iv _ => b - (intOf iv).toNat)
  case atStart => exact ⟨a + 1, L, by go_num, Nat.le_refl _, Or.inr rfl, HS0.out, Shuf.refl _ _ _, fun i j h1 h2 h3 => by omega, Oth.refl _ _⟩
  case round =>
    obtain ⟨i, M, rfl, hai, hib, hSt, hSh, hSo, hOt⟩ := hrel
    have HSt := hide hSt
    have HSh := hide hSh
    have HSo := hide hSo
    have HOt := hide hOt
    clear hSt hSh hSo hOt
    by_cases hlt : i < b
    · go_wp2_with fail
      go_loopw [9] (fun jv wr => ∃ (j : Nat) (N : Nat → E), jv = .int .i64 j ∧ a ≤ j ∧ j ≤ i ∧ St wr g n N ∧ Shuf a (i + 1) L N ∧ Ins N a i j ∧ Oth g w wr) (fun jv _ => (intOf jv).toNat)
      case atStart =>
        refine ⟨i, M, rfl, by omega, Nat.le_refl _, HSt.out, HSh.out.mono (Nat.le_refl _) (by omega), Ins.start HSo.out (fun p h1 h2 => ?_), HOt.out⟩
        obtain ⟨q, h3, h4, h5⟩ := HSh.out.inn h1 h2
        rw [h5, HSh.out.out (Or.inr (Nat.le_refl _))]
        exact HR.out q i h3 h4 hlt
      case round =>
        obtain ⟨j, N, rfl, haj, hji, hSt, hSh, hIn, hOt⟩ := hrel
        by_cases hja : a < j
        · obtain ⟨q, rfl⟩ : ∃ q, j = q + 1 := ⟨j - 1, by omega⟩
          have hd : decide ((a : Int) < (q : Int) + 1) = true := by simp; omega
          have c0 := hSt.at0 (q + 1) (by omega)
          have c1 := hSt.at1 (q + 1) (by omega)
          have c2 := hSt.at0 q (by omega)
          have c3 := hSt.at1 q (by omega)
          have HSt2 := hide hSt
          have HSh2 := hide hSh
          have HIn := hide hIn
          have HOt2 := hide hOt
          have i1 : (q : Int) + 1 < (n : Int) := by omega
          have i2 : (q : Int) < (n : Int) := by omega
          have i3 : (0 : Int) ≤ (q : Int) := by omega
          have i4 : (0 : Int) ≤ (q : Int) + 1 := by omega
          have i5 : q < n := by omega
          have w1 : IntKind.i64.wrap ((q : Int) + 1 - 1) = q := by rw [wrapN _ (by omega) (by omega)]; omega
          have w2 : IntKind.i64.wrap (q : Int) = q := wrapN _ (by omega) (by omega)
          have i6 : q + 1 < n := by omega
          have hgz := hSt.lt
          clear hSt hSh hIn hOt
          go_wp2_with fail
          go_region_held3 (fun w' => w'.cell? ⟨g, (q + 1) * 2, none⟩ = some (.int .i64 (N (q + 1)).1) ∧ w'.cell? ⟨g, (q + 1) * 2 + 1, none⟩ = some (.pointer (N (q + 1)).2.1) ∧ w'.cell? ⟨g, q * 2, none⟩ = some (.int .i64 (N q).1) ∧ w'.cell? ⟨g, q * 2 + 1, none⟩ = some (.pointer (N q).2.1))
            (first | go_keep | (refine ⟨?_, ?_, ?_, ?_⟩ <;> (rw [hb2.cell (by simpa using hgz)]; assumption)))
            (first | (go_at_call 9; refine (cmpStop_any _ _ _ _ _).mono ?_; rintro e w2 ⟨rfl, hb2⟩))
          have HB2 : Hid (Below wr.heap.size wr w2) := ((Below.refl _ wr).drew).trans hb2
          have hS2 : St w2 g n N := HSt2.out.below HB2.out hgz
          have k0 := hS2.at0 (q + 1) (by omega)
          have k1 := hS2.at1 (q + 1) (by omega)
          have k2 := hS2.at0 q (by omega)
          have k3 := hS2.at1 q (by omega)
          have f0 := hS2.free ((q + 1) * 2)
          have f1 := hS2.free ((q + 1) * 2 + 1)
          have f2 := hS2.free (q * 2)
          have f3 := hS2.free (q * 2 + 1)
          have HS2 := hide hS2
          have HO2 : Hid (Oth g w w2) := HOt2.out.trans (Oth.ofBelow HB2.out)
          clear hS2 hb2 c0 c1 c2 c3
          by_cases hk : (N (q + 1)).1 < (N q).1
          · rw [show cmpI (N (q + 1)).1 (N q).1 = -1 by simp [cmpI, hk]]
            go_wp2_with fail
            go_region
            all_goals
              have HS3 := hide (HS2.out.swap (q + 1) q (by omega) (by omega) (by omega))
              have HO3 : Hid (Oth g w ((((w2.setCell ⟨g, (q + 1) * 2, none⟩ (.int .i64 (N q).1)).setCell ⟨g, (q + 1) * 2 + 1, none⟩ (.pointer (N q).2.1)).setCell ⟨g, q * 2, none⟩ (.int .i64 (N (q + 1)).1)).setCell ⟨g, q * 2 + 1, none⟩ (.pointer (N (q + 1)).2.1))) :=
                HO2.out.trans ((((Oth.setCell g _ _ _).trans (Oth.setCell g _ _ _)).trans (Oth.setCell g _ _ _)).trans (Oth.setCell g _ _ _))
              clear k0 k1 k2 k3 f0 f1 f2 f3
              go_wp2
              go_roundw
              case rel =>
                exact ⟨q, swp N (q + 1) q, by go_num, by omega, by omega, HS3.out.drew, HSh2.out.trans (Shuf.swap N (by omega) (by omega)), HIn.out.step (by omega) hji hk, HO3.out.drew⟩
              case measure => simp [intOf]
          · obtain ⟨cv, hcv, hc0⟩ : ∃ cv, cmpI (N (q + 1)).1 (N q).1 = cv ∧ 0 ≤ cv := ⟨_, rfl, by simp only [cmpI, hk, if_false]; split <;> decide⟩
            rw [hcv]
            clear hcv
            clear k0 k1 k2 k3 f0 f1 f2 f3
            go_wp2
            go_roundw
            case rel =>
              exact ⟨i + 1, N, by go_num, by omega, Or.inl (by omega), HS2.out, HSh2.out, HIn.out.stop hji haj (Or.inr hk), HO2.out⟩
            case measure => simp [intOf]; omega
        · obtain rfl : j = a := by omega
          have hd : decide ((j : Int) < (j : Int)) = false := by simp
          have HSt2 := hide hSt
          have HSh2 := hide hSh
          have HIn := hide hIn
          have HOt2 := hide hOt
          clear hSt hSh hIn hOt
          go_wp2_with fail
          go_quiet (fail)
          go_wp2
          go_roundw
          case rel =>
            exact ⟨i + 1, N, by go_num, by omega, Or.inl (by omega), ⟨HSt2.out.at0, HSt2.out.at1, HSt2.out.free, HSt2.out.lt⟩, HSh2.out, HIn.out.stop hji (Nat.le_refl _) (Or.inl rfl), ⟨HOt2.out.os, HOt2.out.tape, HOt2.out.output, HOt2.out.size, HOt2.out.block⟩⟩
          case measure => simp [intOf]; omega
    · go_wp2
      go_end0
      refine ⟨rfl, M, HSt.out, ?_, ?_, HOt.out⟩
      · rcases hib with h | h
        · obtain rfl : i = b := by omega
          exact HSh.out
        · have : M = L := by
            funext t
            by_cases ht : t = a
            · subst ht
              obtain ⟨u, h1, h2, h3⟩ := HSh.out.inn (i := t) (Nat.le_refl _) (by omega)
              rw [h3, show u = t by omega]
            · exact HSh.out.out (by omega)
          rw [this]; exact Shuf.refl _ _ _
      · intro p q h1 h2 h3
        exact HSo.out p q h1 h2 (by omega)
end Go.Proofs.Ybulkoc
