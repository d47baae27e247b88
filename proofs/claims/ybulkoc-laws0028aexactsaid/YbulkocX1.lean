import Derived.Test.YbulkocO2
import Derived.Test.YbulkocE1
import Derived.Test.YbulkocB2f
namespace Go.Proofs.Ybulkoc
set_option linter.unusedVariables false
set_option linter.unusedSimpArgs false
open Go.RowKit
attribute [local go_sem] run_store_float run_store_nilFunc

/-- What 'zzs0028aexpect' answers is what 'processes' made. -/
theorem exact_law {w : World} {aC aR : Option Addr} {nc nr cC cR m t : Nat} {CL : List (Int × Int)} {RL : List (Int × Int × Int × ByteArray)} {PV : Nat → ByteArray} {P Q : List Pr} {L' : Nat → E} (h : CfgIn w aC aR nc nr cC cR m CL RL)
    (hQ : Made (frOf RL) (vlOf RL) PV (stA CL RL aR nr) t Q) (h1 : Shuf 0 (stA CL RL aR nr t).length (mk (stA CL RL aR nr t)) L') (h2 : Sorted L' 0 (stA CL RL aR nr t).length)
    (hP : P = ex1 0 (PV (t + 1)) (headAt (from_ L' 0 (stA CL RL aR nr t).length)) ++ exs (frOf RL) (vlOf RL) (PV (t + 1)) (from_ L' 0 (stA CL RL aR nr t).length)) : P = Q := by
  obtain ⟨L2, k1, k2, rfl⟩ := hQ
  have he := made_uniq h1 k1 h2 k2
  rw [← from_all, ← from_all] at he
  rw [hP, ← he, run_ex (frOf RL) (vlOf RL) (PV (t + 1)) (from_ L' 0 (stA CL RL aR nr t).length) 0 (PV (t + 1)) true (by unfold longest1; omega)]
  · rfl
  · intro e hm a ha
    rw [from_all] at hm
    obtain ⟨u, hu, rfl⟩ := List.mem_map.1 ((shuf_perm h1).mem_iff.1 hm)
    have r1 := stA_elem h nr t u (List.mem_range.1 hu)
    have r2 := h.rngR (a.off / 4)
    have : frOf RL a ≤ 65535 := r2.2.2.2
    unfold longest1
    omega

theorem made_len {fr : Addr → Int} {vl : Addr → ByteArray} {PV : Nat → ByteArray} {SL : Nat → List (Int × Option Addr)} {t : Nat} {Q : List Pr} (h : Made fr vl PV SL t Q) : Q.length ≤ (SL t).length + 1 := by
  obtain ⟨L2, k1, k2, rfl⟩ := h
  refine Nat.le_trans (run_len _ _ _ _ _ _ _) ?_
  have := List.length_filter_le (fun e : E => e.2.1.isSome) (from_ L2 0 (SL t).length)
  simp only [from_all, List.length_map, List.length_range] at this ⊢
  simp only [if_true]
  omega

set_option maxRecDepth 100000 in
set_option maxHeartbeats 4000000 in
theorem exact_any (mem : Int) (m : Nat) (ac ar : Option Addr) (nc cc nr cr : Nat) (C : List (Int × Int)) (R : List (Int × Int × Int × ByteArray)) (mv : Value) (PV : Nat → ByteArray) (w : World) (hm0 : 0 ≤ mem) (hm1 : mem ≤ 255) (hm : mem % 8 + 1 = (m : Int)) (hc : InC w ac nc C) (hr : InR w ar nr R) (hnc : nc ≤ 1024) (hncc : nc ≤ cc) (hnr : nr ≤ 1024) (hnrc : nr ≤ cr)
    (hmap : ∀ wx, Below w.heap.size w wx → ∀ k : Nat, 1 ≤ k → k ≤ 8 → (Instr.lookup 24 mv (.int .i64 (k : Int)) false).run Yba.prog wx = .ok (.string (PV k)) wx) :
    Calls Yba.prog 3 #[.int .u8 mem, .slice ac nc cc, .slice ar nr cr, mv] w fun e w' => e = .returned (.bool true) ∧ Below w.heap.size w w' := by
  have hm8 : 1 ≤ m := by omega
  have hm9 : m ≤ 8 := by omega
  have HM := hide hm
  have HC := hide hc
  have HR := hide hr
  have HMAP := hide hmap
  clear hm hc hr hmap
  have t1 : decide ((1024 : Int) < (nc : Int)) = false := by simp; omega
  have t2 : decide ((1024 : Int) < (nr : Int)) = false := by simp; omega
  go_enter Yba.func3, Yba.ntmps3
  go_wp2_with fail
  clear t1 t2
  refine (build_false mem m ac ar nc cc nr cr C R w hm0 hm1 HM.out HC.out HR.out hnc hncc hnr hnrc).mono ?_
  rintro e w1 ⟨vC, vR, rfl, oC, oR, hB1⟩
  obtain ⟨aC, cC, aR, cR, rfl, rfl, hcfg⟩ := cfg_in HC.out HR.out hnc hnr hm8 hm9 oC oR
  rw [cfg_lit]
  have HCF := hide hcfg
  have HB1 := hide hB1
  clear oC oR hcfg hB1
  go_wp2_with fail
  obtain ⟨wA, hwA⟩ : ∃ x, x = w1.alloc (.cells #[.int .i64 m, .int .i64 0, .int .u64 0, .int .i64 0, .int .u8 0, .int .i64 0, .int .i64 0, .float .f64 0, .slice none 0 0, .slice aC nc cC, .slice none 0 0, .slice aR nr cR, .nilFunc, .pointer none, .pointer none, .bool false] 39) := ⟨_, rfl⟩
  rw [← hwA]
  have HgA : Hid (w1.grownBy wA none) := by rw [hwA]; exact grown_alloc _ _ _
  have HRA : Hid (Row wA w1.heap.size 39 (cfgCells m (.slice aC nc cC) (.slice aR nr cR))) := by rw [hwA]; exact Row.new w1 39 (cfgCells m (.slice aC nc cC) (.slice aR nr cR))
  clear hwA
  have HBA : Hid (Below w.heap.size w wA) := below_grown HB1.out HgA.out (Nat.le_refl _) (fun k hk => by cases hk)
  have HCA : Hid (CfgIn wA aC aR nc nr cC cR m (C.map (mkC m)) (R.map (mkR m false))) := HCF.out.grow (below_grown (Below.refl _ _) HgA.out (Nat.le_refl _) (fun k hk => by cases hk))
  have hAs : w1.heap.size < wA.heap.size := HRA.out.lt
  rw [← cfg_lit]
  refine (processes_any m nc nr cC cR aC aR mv _ _ PV wA (fun wx hx => HMAP.out wx (HBA.out.trans (hx.mono HBA.out.size))) HCA.out).mono ?_
  rintro e w2 ⟨G, VA, PR, rfl, hG, hfam, hmade, hB2⟩
  rw [cfg_lit]
  have HFM := hide hfam
  have HMD := hide hmade
  have HB2 := hide hB2
  have HWG := hide hG
  clear hfam hmade hB2 hG
  have HRC : Hid (Row w2 w1.heap.size 39 (cfgCells m (.slice aC nc cC) (.slice aR nr cR))) := (HB2.out.block _ hAs).trans HRA.out
  have hG1 : w1.heap.size < G := by have := HWG.out; omega
  generalize hCL : C.map (mkC m) = CL at *
  generalize hRL : R.map (mkR m false) = RL at *
  clear hCL hRL HCF
  generalize hcb : w1.heap.size = cb at *
  have c0 := HRC.out.cell (o := 0) rfl
  have t3 : decide ((m : Int) = (m : Int)) = true := by simp
  go_wp2_with fail
  clear c0 t3
  go_loopw [11] (fun iv wr => ∃ (i : Nat), iv = .int .i64 i ∧ i ≤ m ∧ Hid (Below w2.heap.size w2 wr)) (fun iv _ => m - (intOf iv).toNat)
  case atStart => exact ⟨0, by go_num, Nat.zero_le _, Below.refl _ _⟩
  case round =>
    obtain ⟨i, rfl, him, HW⟩ := hrel
    have hFr := HFM.out.lt
    have HRw : Hid (Row wr cb 39 (cfgCells m (.slice aC nc cC) (.slice aR nr cR))) := (HW.out.block _ (by omega)).trans HRC.out
    have c0 := HRw.out.cell (o := 0) rfl
    have c1 := HRw.out.cell (o := 1) rfl
    have c2 := HRw.out.cell (o := 2) rfl
    have c3 := HRw.out.cell (o := 3) rfl
    have c4 := HRw.out.cell (o := 4) rfl
    have c5 := HRw.out.cell (o := 5) rfl
    have c6 := HRw.out.cell (o := 6) rfl
    have c7 := HRw.out.cell (o := 7) rfl
    have c8 := HRw.out.cell (o := 8) rfl
    have c9 := HRw.out.cell (o := 9) rfl
    have c10 := HRw.out.cell (o := 10) rfl
    have c11 := HRw.out.cell (o := 11) rfl
    have c12 := HRw.out.cell (o := 12) rfl
    have c13 := HRw.out.cell (o := 13) rfl
    have c14 := HRw.out.cell (o := 14) rfl
    have c15 := HRw.out.cell (o := 15) rfl
    by_cases hlt : i < m
    · have hd : decide ((i : Int) < (m : Int)) = true := by simp; omega
      have wi : IntKind.i64.wrap ((i : Int) + 1) = (i : Int) + 1 := wrapN _ (by omega) (by omega)
      go_wp2_with fail
      clear c0 c1 c2 c3 c4 c5 c6 c7 c8 c9 c10 c11 c12 c13 c14 c15
      have HBr : Hid (Below wA.heap.size wA wr) := HB2.out.trans (HW.out.mono HB2.out.size)
      refine (expect_any m nc nr cC cR i aC aR mv CL RL PV wr hlt (fun wx hx => HMAP.out wx ((HBA.out.trans (HBr.out.mono HBA.out.size)).trans (hx.mono (Nat.le_trans HBA.out.size HBr.out.size)))) (HCA.out.grow HBr.out)).mono ?_
      rintro e w3 ⟨v, P, rfl, hownP, ⟨L', hsh, hso, hPe⟩, hB3⟩
      have hPQ := exact_law HCA.out (HMD.out i hlt) hsh hso hPe
      have hPn := made_len (HMD.out i hlt)
      have hSn := stA_le CL RL aR nr i
      rw [HCA.out.lenC] at hSn
      rw [← hPQ] at hPn
      have hP2 : P.length ≤ 2049 := by omega
      clear hPn hSn
      have HW3 : Hid (Below w2.heap.size w2 w3) := HW.out.trans (hB3.mono HW.out.size)
      have hcell := HFM.out.at_ i hlt
      have HOV := hide (HFM.out.own i hlt)
      rw [← hPQ] at HOV
      have HOP := hide hownP
      clear hsh hso hPe hPQ hownP hB3
      rw [← HW3.out.cell (p := ⟨G, i, none⟩) hFr] at hcell
      obtain ⟨aV, capV, hVe, hcapV, hform⟩ := own_form HOV.out
      rw [hVe] at hcell HOV
      clear hVe
      obtain ⟨aP, capP, rfl, hcapP, hformP⟩ := own_form HOP.out
      have HVC := hide hcell
      have HFO := hide hform
      have HFP := hide hformP
      clear hform hformP
      have him2 : (i : Int) < (m : Int) := by omega
      have hnn : ((P.length : Int) != (P.length : Int)) = false := by simp
      go_wp2_with fail
      clear hcell hnn hd
      go_loopw [55] (fun kv wr => ∃ (k : Nat), kv = .int .i64 k ∧ k ≤ P.length ∧ Hid (Below w3.heap.size w3 wr)) (fun kv _ => P.length - (intOf kv).toNat)
      case atStart => exact ⟨0, by go_num, Nat.zero_le _, Below.refl _ _⟩
      case round =>
        clear HW
        obtain ⟨k, rfl, hkp, HW⟩ := hrel
        by_cases hltk : k < P.length
        · have hdk : decide ((k : Int) < (P.length : Int)) = true := by simp; omega
          have hkn : (k : Int) < (P.length : Int) := by omega
          obtain ⟨g, rfl, _, hg⟩ := HFO.out (by omega)
          obtain ⟨g2, rfl, _, hg2⟩ := HFP.out (by omega)
          have HW4 : Hid (Below w2.heap.size w2 wr) := HW3.out.trans (HW.out.mono HW3.out.size)
          have e4 := HVC.out
          rw [← HW.out.cell (p := ⟨G, i, none⟩) (Nat.lt_of_lt_of_le hFr HW3.out.size)] at e4
          obtain ⟨e1, e2, e3⟩ := pr_get P k hltk
          obtain ⟨f1, f2, f3⟩ := pr_get P k hltk
          have hlp := prCells_len P
          rw [← HOV.out.cellAt (k * 3) (by omega), ← HW4.out.cell (p := ⟨g, k * 3, none⟩) hg] at e1
          rw [← HOV.out.cellAt (k * 3 + 1) (by omega), ← HW4.out.cell (p := ⟨g, k * 3 + 1, none⟩) hg] at e2
          rw [← HOV.out.cellAt (k * 3 + 2) (by omega), ← HW4.out.cell (p := ⟨g, k * 3 + 2, none⟩) hg] at e3
          rw [← HOP.out.cellAt (k * 3) (by omega), ← HW.out.cell (p := ⟨g2, k * 3, none⟩) hg2] at f1
          rw [← HOP.out.cellAt (k * 3 + 1) (by omega), ← HW.out.cell (p := ⟨g2, k * 3 + 1, none⟩) hg2] at f2
          rw [← HOP.out.cellAt (k * 3 + 2) (by omega), ← HW.out.cell (p := ⟨g2, k * 3 + 2, none⟩) hg2] at f3
          generalize (P.getD k (0, 0, .empty)).1 = x1 at *
          generalize (P.getD k (0, 0, .empty)).2.1 = x2 at *
          generalize (P.getD k (0, 0, .empty)).2.2 = x3 at *
          clear hlp
          go_wp2_with fail
          go_quiet (fail)
          go_wp2
          go_roundw
          case rel => exact ⟨k + 1, by go_num, by omega, below_drewN HW.out _⟩
          case measure => simp [intOf]; omega
        · have hdk : decide ((k : Int) < (P.length : Int)) = false := by simp; omega
          go_wp2
          go_roundw
          case rel => exact ⟨i + 1, by go_num, by omega, HW3.out.trans (HW.out.mono HW3.out.size)⟩
          case measure => simp [intOf]; omega
    · have hd : decide ((i : Int) < (m : Int)) = false := by simp; omega
      go_wp2
      go_ret
      exact ⟨rfl, HBA.out.trans ((HB2.out.trans (HW.out.mono HB2.out.size)).mono HBA.out.size)⟩
end Go.Proofs.Ybulkoc
