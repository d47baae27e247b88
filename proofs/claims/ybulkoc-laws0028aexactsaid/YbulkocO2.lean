import Derived.Test.YbulkocO1
import Derived.Test.YbulkocP3
import Derived.Test.YbulkocP6
namespace Go.Proofs.Ybulkoc
set_option linter.unusedVariables false
set_option linter.unusedSimpArgs false
open Go.RowKit
attribute [local go_sem] run_store_float run_store_nilFunc

theorem cfg_lit (m : Int) (vC vR : Value) : (cfgCells m vC vR).toArray = #[.int .i64 m, .int .i64 0, .int .u64 0, .int .i64 0, .int .u8 0, .int .i64 0, .int .i64 0, .float .f64 0, .slice none 0 0, vC, .slice none 0 0, vR, .nilFunc, .pointer none, .pointer none, .bool false] := rfl

/-- How many of the first j restarts are of member t + 1. -/
def cnt (RL : List (Int × Int × Int × ByteArray)) (j t : Nat) : Nat := ((List.range j).filter fun k => (RL.getD k (0, 0, 0, .empty)).1 == (t : Int) + 1).length
theorem cnt_hit (RL : List (Int × Int × Int × ByteArray)) (j t : Nat) (h : (RL.getD j (0, 0, 0, .empty)).1 = (t : Int) + 1) : cnt RL (j + 1) t = cnt RL j t + 1 := by
  unfold cnt
  have : ((RL.getD j (0, 0, 0, .empty)).1 == (t : Int) + 1) = true := by simpa using h
  rw [List.range_succ, List.filter_append, List.length_append, List.filter_cons, this]
  rfl
theorem cnt_miss (RL : List (Int × Int × Int × ByteArray)) (j t : Nat) (h : ¬ (RL.getD j (0, 0, 0, .empty)).1 = (t : Int) + 1) : cnt RL (j + 1) t = cnt RL j t := by
  unfold cnt
  have : ((RL.getD j (0, 0, 0, .empty)).1 == (t : Int) + 1) = false := by simpa using h
  rw [List.range_succ, List.filter_append, List.length_append, List.filter_cons, this]
  rfl
theorem pr_get (P : List Pr) (i : Nat) (h : i < P.length) : (prCells P)[i * 3]? = some (.int .i64 (P.getD i (0, 0, .empty)).1) ∧ (prCells P)[i * 3 + 1]? = some (.int .i64 (P.getD i (0, 0, .empty)).2.1) ∧ (prCells P)[i * 3 + 2]? = some (.string (P.getD i (0, 0, .empty)).2.2) := by
  have hh := fun j hj => flat_get (fun p : Pr => [Value.int .i64 p.1, .int .i64 p.2.1, .string p.2.2]) 3 (fun _ => rfl) P i j hj
  have h0 := hh 0 (by omega)
  have h1 := hh 1 (by omega)
  have h2 := hh 2 (by omega)
  rw [List.getElem?_eq_getElem h] at h0 h1 h2
  simp only [Option.bind_some, Nat.add_zero] at h0 h1 h2
  refine ⟨h0.trans ?_, h1.trans ?_, h2.trans ?_⟩ <;> simp [List.getD, List.getElem?_eq_getElem h]

set_option maxRecDepth 100000 in
set_option maxHeartbeats 4000000 in
theorem ordered_any (mem : Int) (m : Nat) (ac ar : Option Addr) (nc cc nr cr : Nat) (C : List (Int × Int)) (R : List (Int × Int × Int × ByteArray)) (mv : Value) (PV : Nat → ByteArray) (w : World) (hm0 : 0 ≤ mem) (hm1 : mem ≤ 255) (hm : mem % 8 + 1 = (m : Int)) (hc : InC w ac nc C) (hr : InR w ar nr R) (hnc : nc ≤ 1024) (hncc : nc ≤ cc) (hnr : nr ≤ 1024) (hnrc : nr ≤ cr)
    (hmap : ∀ wx, Below w.heap.size w wx → ∀ k : Nat, 1 ≤ k → k ≤ 8 → (Instr.lookup 24 mv (.int .i64 (k : Int)) false).run Yba.prog wx = .ok (.string (PV k)) wx) :
    Calls Yba.prog 4 #[.int .u8 mem, .slice ac nc cc, .slice ar nr cr, mv] w fun e w' => e = .returned (.bool true) ∧ Below w.heap.size w w' := by
  have hm8 : 1 ≤ m := by omega
  have hm9 : m ≤ 8 := by omega
  have HM := hide hm
  have HC := hide hc
  have HR := hide hr
  have HMAP := hide hmap
  clear hm hc hr hmap
  have t1 : decide ((1024 : Int) < (nc : Int)) = false := by simp; omega
  have t2 : decide ((1024 : Int) < (nr : Int)) = false := by simp; omega
  go_enter Yba.func4, Yba.ntmps4
  go_wp2_with fail
  clear t1 t2
  refine (build_true mem m ac ar nc cc nr cr C R w hm0 hm1 HM.out HC.out HR.out hnc hncc hnr hnrc).mono ?_
  rintro e w1 ⟨vC, vR, rfl, oC, oR, hB1⟩
  obtain ⟨aC, cC, aR, cR, rfl, rfl, hcfg⟩ := cfg_in HC.out HR.out hnc hnr hm8 hm9 oC oR
  rw [cfg_lit]
  have HCF := hide hcfg
  have HB1 := hide hB1
  clear oC oR hcfg hB1
  go_wp2_with fail
  obtain ⟨wA, hwA⟩ : ∃ x, x = w1.alloc (.cells #[.int .i64 m, .int .i64 0, .int .u64 0, .int .i64 0, .int .u8 0, .int .i64 0, .int .i64 0, .float .f64 0, .slice none 0 0, .slice aC nc cC, .slice none 0 0, .slice aR nr cR, .nilFunc, .pointer none, .pointer none, .bool false] 39) := ⟨_, rfl⟩
  rw [← hwA]
  have HgA : Hid (w1.grownBy wA none) := by rw [hwA]; exact grown_alloc _ _ _
  have HRA : Hid (Row wA w1.heap.size 39 (cfgCells m (.slice aC nc cC) (.slice aR nr cR))) := by rw [hwA]; exact Row.new w1 39 (cfgCells m (.slice aC nc cC) (.slice aR nr cR))
  clear hwA
  have HBA : Hid (Below w.heap.size w wA) := below_grown HB1.out HgA.out (Nat.le_refl _) (fun k hk => by cases hk)
  have HCA : Hid (CfgIn wA aC aR nc nr cC cR m (C.map (mkC m)) (R.map (mkR m true))) := HCF.out.grow (below_grown (Below.refl _ _) HgA.out (Nat.le_refl _) (fun k hk => by cases hk))
  have hAs : w1.heap.size < wA.heap.size := HRA.out.lt
  rw [← cfg_lit]
  refine (processes_any m nc nr cC cR aC aR mv _ _ PV wA (fun wx hx => HMAP.out wx (HBA.out.trans (hx.mono HBA.out.size))) HCA.out).mono ?_
  rintro e w2 ⟨G, VA, PR, rfl, hG, hfam, hmade, hB2⟩
  rw [cfg_lit]
  have HFM := hide hfam
  have HMD := hide hmade
  have HB2 := hide hB2
  have HWG := hide hG
  clear hfam hmade hB2 hG
  have HRC : Hid (Row w2 w1.heap.size 39 (cfgCells m (.slice aC nc cC) (.slice aR nr cR))) := (HB2.out.block _ hAs).trans HRA.out
  have hG1 : w1.heap.size < G := by have := HWG.out; omega
  generalize hCL : C.map (mkC m) = CL at *
  have HnnR : Hid (∀ j, 0 ≤ ((R.map (mkR m true)).getD j (0, 0, 0, .empty)).2.2.1 ∧ ((R.map (mkR m true)).getD j (0, 0, 0, .empty)).2.2.1 ≤ 65535) := fun j => nonneg_in j
  generalize hRL : R.map (mkR m true) = RL at *
  clear hCL hRL HCF
  generalize hcb : w1.heap.size = cb at *
  have c0 := HRC.out.cell (o := 0) rfl
  have t3 : decide ((m : Int) = (m : Int)) = true := by simp
  go_wp2_with fail
  clear c0 t3
  go_loopw [11] (fun iv wr => ∃ (i : Nat), iv = .int .i64 i ∧ i ≤ m ∧ Hid (Below w2.heap.size w2 wr)) (fun iv _ => m - (intOf iv).toNat)
  case atStart => exact ⟨0, by go_num, Nat.zero_le _, Below.refl _ _⟩
  case round =>
    obtain ⟨i, rfl, him, HW⟩ := hrel
    have hFr := HFM.out.lt
    have HRw : Hid (Row wr cb 39 (cfgCells m (.slice aC nc cC) (.slice aR nr cR))) := (HW.out.block _ (by omega)).trans HRC.out
    have c0 := HRw.out.cell (o := 0) rfl
    have c11 := HRw.out.cell (o := 11) rfl
    by_cases hlt : i < m
    · have hd : decide ((i : Int) < (m : Int)) = true := by simp; omega
      go_wp2_with fail
      clear c0 c11 hd HRw
      have HW0 := hide HW.out
      go_loopw [46, 12] (fun jv cv wr => ∃ (j c : Nat), jv = .int .i64 j ∧ cv = .int .i64 c ∧ j ≤ nr ∧ c ≤ j ∧ Hid (c = cnt RL j i) ∧ Hid (Below w2.heap.size w2 wr)) (fun jv _ _ => nr - (intOf jv).toNat)
      case atStart => exact ⟨0, 0, by go_num, by go_num, Nat.zero_le _, Nat.le_refl _, rfl, HW0.out⟩
      case round =>
        clear HW HW0
        obtain ⟨j, c, rfl, rfl, hjr, hcj, HCN, HW⟩ := hrel
        by_cases hltj : j < nr
        · have hdj : decide ((j : Int) < (nr : Int)) = true := by simp; omega
          obtain ⟨b, rfl, hb, hcells⟩ := HCA.out.rest (by omega)
          have hrng := HCA.out.rngR j
          obtain ⟨q0, q1, q2, q3⟩ := hcells j hltj
          have HBr : Hid (Below wA.heap.size wA wr) := HB2.out.trans (HW.out.mono HB2.out.size)
          rw [← HBr.out.cell (p := ⟨b, j * 4, none⟩) hb] at q0
          rw [← HBr.out.cell (p := ⟨b, j * 4 + 1, none⟩) hb] at q1
          rw [← HBr.out.cell (p := ⟨b, j * 4 + 2, none⟩) hb] at q2
          rw [← HBr.out.cell (p := ⟨b, j * 4 + 3, none⟩) hb] at q3
          have HH := hide (cnt_hit RL j i)
          have HM2 := hide (cnt_miss RL j i)
          clear hcells hrng
          generalize (RL.getD j (0, 0, 0, .empty)).1 = mm at *
          generalize (RL.getD j (0, 0, 0, .empty)).2.1 = m2 at *
          generalize (RL.getD j (0, 0, 0, .empty)).2.2.1 = m3 at *
          generalize (RL.getD j (0, 0, 0, .empty)).2.2.2 = m4 at *
          have hjn : (j : Int) < (nr : Int) := by omega
          have wi : IntKind.i64.wrap ((i : Int) + 1) = (i : Int) + 1 := wrapN _ (by omega) (by omega)
          by_cases hit : mm = (i : Int) + 1
          · have hdm : (mm == (i : Int) + 1) = true := by simp; exact hit
            have HE : Hid (c + 1 = cnt RL (j + 1) i) := by rw [HH.out hit, HCN.out]; exact rfl
            clear hit HH HM2
            go_wp2
            go_roundw
            case rel => exact ⟨j + 1, c + 1, by go_num, by go_num, by omega, by omega, HE, below_grown HW.out (grown_alloc _ _ none) (Nat.le_refl _) (fun k hk => by cases hk)⟩
            case measure => simp [intOf]; omega
          · have hdm : (mm == (i : Int) + 1) = false := by simp; exact hit
            have HE : Hid (c = cnt RL (j + 1) i) := by rw [HM2.out hit, HCN.out]; exact rfl
            clear hit HH HM2
            go_wp2
            go_roundw
            case rel => exact ⟨j + 1, c, by go_num, rfl, by omega, by omega, HE, below_grown HW.out (grown_alloc _ _ none) (Nat.le_refl _) (fun k hk => by cases hk)⟩
            case measure => simp [intOf]; omega
        · have hdj : decide ((j : Int) < (nr : Int)) = false := by simp; omega
          obtain ⟨hlen, hch⟩ := made_law (HMD.out i hlt) (fun a => HnnR.out _) (fun u hu => ⟨(stA_elem HCA.out nr i u hu).1, (stA_elem HCA.out nr i u hu).2.1⟩)
          have hlen2 : (PR i).length ≤ c + 1 := by
            have h1 := HCN.out
            rw [show j = nr by omega] at h1
            rw [h1]
            exact hlen
          have HCH := hide hch
          have hcell := HFM.out.at_ i hlt
          have HOV := hide (HFM.out.own i hlt)
          rw [← HW.out.cell (p := ⟨G, i, none⟩) hFr] at hcell
          clear hlen hch
          obtain ⟨P, hP⟩ : ∃ P, P = PR i := ⟨_, rfl⟩
          rw [← hP] at HOV HCH hlen2
          clear hP
          obtain ⟨aV, capV, hVe, hcapV, hform⟩ := own_form HOV.out
          rw [hVe] at hcell HOV
          clear hVe
          have HFO := hide hform
          clear hform
          have him2 : (i : Int) < (m : Int) := by omega
          have wc : IntKind.i64.wrap ((c : Int) + 1) = (c : Int) + 1 := wrapN _ (by omega) (by omega)
          have hdl : decide ((c : Int) + 1 < (P.length : Int)) = false := by simp; omega
          go_wp2_with fail
          clear hcell hdl wc
          have HW0 := hide HW.out
          go_loopw [69] (fun kv wr => ∃ (k : Nat), kv = .int .i64 k ∧ k ≤ P.length ∧ Hid (Below w2.heap.size w2 wr)) (fun kv _ => P.length - (intOf kv).toNat)
          case atStart => exact ⟨0, by go_num, Nat.zero_le _, HW0.out⟩
          case round =>
            clear HW HW0
            obtain ⟨k, rfl, hkp, HW⟩ := hrel
            by_cases hltk : k < P.length
            · have hdk : decide ((k : Int) < (P.length : Int)) = true := by simp; omega
              have hkn : (k : Int) < (P.length : Int) := by omega
              obtain ⟨g, rfl, _, hg⟩ := HFO.out (by omega)
              obtain ⟨e1, e2, e3⟩ := pr_get P k hltk
              obtain ⟨o1, o2⟩ := HCH.out.at_ k (0, 0, .empty) hltk
              have hlp := prCells_len P
              rw [← HOV.out.cellAt (k * 3) (by omega), ← HW.out.cell (p := ⟨g, k * 3, none⟩) hg] at e1
              rw [← HOV.out.cellAt (k * 3 + 1) (by omega), ← HW.out.cell (p := ⟨g, k * 3 + 1, none⟩) hg] at e2
              have hdo : decide ((P.getD k (0, 0, .empty)).2.1 ≤ (P.getD k (0, 0, .empty)).1) = false := by simp only [decide_eq_false_iff_not]; omega
              clear e3
              by_cases hk0 : 0 < k
              · have hdz : decide ((0 : Int) < (k : Int)) = true := by simp; omega
                obtain ⟨kp, hkp1, hkp2⟩ : ∃ kp, kp + 1 ≤ k ∧ k ≤ kp + 1 := ⟨k - 1, by omega, by omega⟩
                have o3 := o2 hk0
                rw [show k - 1 = kp by omega] at o3
                obtain ⟨f1, f2, f3⟩ := pr_get P kp (by omega)
                rw [← HOV.out.cellAt (kp * 3 + 1) (by omega), ← HW.out.cell (p := ⟨g, kp * 3 + 1, none⟩) hg] at f2
                have wk : IntKind.i64.wrap ((k : Int) - 1) = (kp : Int) := by rw [wrapN _ (by omega) (by omega)]; omega
                have hkpn : (kp : Int) < (P.length : Int) := by omega
                have hdp : decide ((P.getD k (0, 0, .empty)).1 < (P.getD kp (0, 0, .empty)).2.1) = false := by simp only [decide_eq_false_iff_not]; omega
                clear f1 f3 o1 o2 o3 hlp
                generalize (P.getD k (0, 0, .empty)).1 = x1 at *
                generalize (P.getD k (0, 0, .empty)).2.1 = x2 at *
                generalize (P.getD kp (0, 0, .empty)).2.1 = x3 at *
                go_wp2_with fail
                go_quiet (fail)
                go_wp2_with fail
                go_quiet (fail)
                go_wp2
                go_roundw
                case rel => exact ⟨k + 1, by go_num, by omega, below_drewN HW.out _⟩
                case measure => simp [intOf]; omega
              · have hdz : decide ((0 : Int) < (k : Int)) = false := by simp; omega
                clear o1 o2 hlp
                generalize (P.getD k (0, 0, .empty)).1 = x1 at *
                generalize (P.getD k (0, 0, .empty)).2.1 = x2 at *
                go_wp2_with fail
                go_quiet (fail)
                go_wp2_with fail
                go_quiet (fail)
                go_wp2
                go_roundw
                case rel => exact ⟨k + 1, by go_num, by omega, below_drewN HW.out _⟩
                case measure => simp [intOf]; omega
            · have hdk : decide ((k : Int) < (P.length : Int)) = false := by simp; omega
              go_wp2
              go_roundw
              case rel => exact ⟨i + 1, by go_num, by omega, HW⟩
              case measure => simp [intOf]; omega
    · have hd : decide ((i : Int) < (m : Int)) = false := by simp; omega
      go_wp2
      go_ret
      exact ⟨rfl, HBA.out.trans ((HB2.out.trans (HW.out.mono HB2.out.size)).mono HBA.out.size)⟩
end Go.Proofs.Ybulkoc
