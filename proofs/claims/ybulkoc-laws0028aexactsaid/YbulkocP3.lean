import Derived.Test.YbulkocP5
namespace Go.Proofs.Ybulkoc
set_option linter.unusedVariables false
set_option linter.unusedSimpArgs false
open Go.RowKit
attribute [local go_sem] run_store_float run_store_nilFunc

set_option maxRecDepth 100000 in
set_option maxHeartbeats 4000000 in
theorem processes_any (m nc nr cC cR : Nat) (aC aR : Option Addr) (mv : Value) (CL : List (Int × Int)) (RL : List (Int × Int × Int × ByteArray)) (PV : Nat → ByteArray) (w : World) (hmap : ∀ wx, Below w.heap.size w wx → ∀ k : Nat, 1 ≤ k → k ≤ 8 → (Instr.lookup 24 mv (.int .i64 (k : Int)) false).run Yba.prog wx = .ok (.string (PV k)) wx) (hin : CfgIn w aC aR nc nr cC cR m CL RL) :
    Calls Yba.prog 6 #[.agg (cfgCells m (.slice aC nc cC) (.slice aR nr cR)).toArray, mv] w fun e w' => ∃ (G : Nat) (VA : Nat → Value) (PR : Nat → List Pr), e = .returned (.slice (some ⟨G, 0, none⟩) m m) ∧ w.heap.size ≤ G ∧ Fam w' G G m 48 3 VA (fun t => (PR t).length) (fun t => prCells (PR t)) ∧ (∀ u, u < m → Made (frOf RL) (vlOf RL) PV (stA CL RL aR nr) u (PR u)) ∧ Below w.heap.size w w' := by
  have HIN := hide hin
  have HMAP := hide hmap
  clear hmap
  have hm1 := hin.m1
  have hm8 := hin.m8
  have hnc := hin.smallC
  have hcc := hin.capC
  have hnr := hin.smallR
  have hcr := hin.capR
  clear hin
  obtain ⟨i64, hi0, hz0, hz1, hz2⟩ := info_parts info64
  have H64 := hide (And.intro hi0 (And.intro hz0 (And.intro hz1 hz2)))
  clear hi0 hz0 hz1 hz2
  obtain ⟨i43, hi0, hz0, hz1, hz2⟩ := info_parts info43
  have H43 := hide (And.intro hi0 (And.intro hz0 (And.intro hz1 hz2)))
  clear hi0 hz0 hz1 hz2
  obtain ⟨i48, hi0, hz0, hz1, hz2⟩ := info_parts info48
  have H48 := hide (And.intro hi0 (And.intro hz0 (And.intro hz1 hz2)))
  clear hi0 hz0 hz1 hz2
  obtain ⟨i61, hi0, hz0, hz1, hz2⟩ := info_parts info61
  have H61 := hide (And.intro hi0 (And.intro hz0 (And.intro hz1 hz2)))
  clear hi0 hz0 hz1 hz2
  have HB0 : Hid (Row (w.alloc (.cells (cfgCells m (.slice aC nc cC) (.slice aR nr cR)).toArray 39)) w.heap.size 39 (cfgCells m (.slice aC nc cC) (.slice aR nr cR))) := Row.new w 39 _
  have hBe : w.alloc (.cells (cfgCells m (.slice aC nc cC) (.slice aR nr cR)).toArray 39) = w.alloc (.cells #[.int .i64 m, .int .i64 0, .int .u64 0, .int .i64 0, .int .u8 0, .int .i64 0, .int .i64 0, .float .f64 0, .slice none 0 0, .slice aC nc cC, .slice none 0 0, .slice aR nr cR, .nilFunc, .pointer none, .pointer none, .bool false] 39) := rfl
  rw [hBe] at HB0
  clear hBe
  rw [show (cfgCells (m : Int) (.slice aC nc cC) (.slice aR nr cR)).toArray = #[.int .i64 m, .int .i64 0, .int .u64 0, .int .i64 0, .int .u8 0, .int .i64 0, .int .i64 0, .float .f64 0, .slice none 0 0, .slice aC nc cC, .slice none 0 0, .slice aR nr cR, .nilFunc, .pointer none, .pointer none, .bool false] from rfl]
  go_enter Yba.func6, Yba.ntmps6
  go_wp2_with (at_make; refine wpList_make_full _ rfl (.tmp 18) (.tmp 18) 60 rfl (w.heap.size + 1) 61 i61 (.slice none 0 0) 1 Yba.underlying60 H61.out.1 H61.out.2.1 H61.out.2.2.1 .i64 .i64 m m m rfl rfl rfl rfl (by rw [H61.out.2.2.2]; omega) (by unfold maxLen; omega) (by simp) ?_; intro w2 hown2 hgrow2; obtain ⟨wB, hwB⟩ : ∃ x, x = w.alloc (.cells #[.int .i64 m, .int .i64 0, .int .u64 0, .int .i64 0, .int .u8 0, .int .i64 0, .int .i64 0, .float .f64 0, .slice none 0 0, .slice aC nc cC, .slice none 0 0, .slice aR nr cR, .nilFunc, .pointer none, .pointer none, .bool false] 39) := ⟨_, rfl⟩; rw [← hwB] at hgrow2 HB0; have HR2 := hide (HB0.out.grown hgrow2 (by simp)); have hg1 := HR2.out.cell (o := 9) rfl; have hg2 := HR2.out.cell (o := 11) rfl; have HO2 := hide hown2; have HG2 := hide hgrow2; have HWB := hide hwB; clear hown2 hgrow2 hwB)
  have hBs : wB.heap.size = w.heap.size + 1 := by rw [HWB.out]; simp
  have HWw : Hid (Below w.heap.size w wB) := by rw [HWB.out]; exact (Below.refl _ _).alloc (Nat.le_refl _) _
  have HF2 : Hid (Fam w2 (w.heap.size + 1) (w.heap.size + 1) m 64 2 (fun _ => .slice none 0 0) (fun id => (stC CL 0 id).length) (fun id => stCells (stC CL 0 id))) := by
    have ho := HO2.out
    rw [show (w.alloc (.cells #[.int .i64 m, .int .i64 0, .int .u64 0, .int .i64 0, .int .u8 0, .int .i64 0, .int .i64 0, .float .f64 0, .slice none 0 0, .slice aC nc cC, .slice none 0 0, .slice aR nr cR, .nilFunc, .pointer none, .pointer none, .bool false] 39)).heap.size = w.heap.size + 1 by simp] at ho
    refine ⟨fun i hi => ?_, fun o => ho.frozenAt o, (ho.lt _ rfl).2, fun i hi => ⟨rfl, Or.inl ⟨rfl, rfl⟩⟩, fun i j _ _ _ b hb => by simp [Value.ownBlock] at hb, fun i _ => by simp [Value.ownBlock]⟩
    rw [ho.cellAt i (by omega)]
    simp only [Value.cells, Nat.mul_one]
    rw [toList_madeCells_one]
    simp [hi]
  have HB2 : Hid (Below (w.heap.size + 1) wB w2) := by rw [← hBs]; exact below_grown (Below.refl _ _) HG2.out (Nat.le_refl _) (fun k hk => by cases hk)
  have HBs := hide hBs
  clear hBs hg1 hg2
  go_loopw [23] (fun iv wr => ∃ (i : Nat) (V : Nat → Value), iv = .int .i64 i ∧ i ≤ nc ∧ Hid (Fam wr (w.heap.size + 1) (w.heap.size + 1) m 64 2 V (fun id => (stC CL i id).length) (fun id => stCells (stC CL i id)) ∧ Below (w.heap.size + 1) wB wr)) (fun iv _ => nc - (intOf iv).toNat)
  case atStart => exact ⟨0, _, by go_num, Nat.zero_le _, HF2.out, HB2.out⟩
  case round =>
    clear HF2 HB2 HO2 HG2 HR2
    obtain ⟨i, V, rfl, hic, HV⟩ := hrel
    by_cases hlt0 : i < nc
    · have hd : decide ((i : Int) < (nc : Int)) = true := by simp; omega
      obtain ⟨b, rfl, hb, hcells⟩ := HIN.out.crash (by omega)
      obtain ⟨hr3, hr4⟩ := HIN.out.rngC i
      obtain ⟨id, hidm, hid⟩ := HIN.out.memC i hlt0
      obtain ⟨hc0, hc1⟩ := hcells i hlt0
      have hbw : Below w.heap.size w wr := HWw.out.trans (HV.out.2.mono (by omega))
      rw [← hbw.cell (p := ⟨b, i * 2, none⟩) hb] at hc0
      rw [← hbw.cell (p := ⟨b, i * 2 + 1, none⟩) hb] at hc1
      rw [hid] at hc0
      have HID := hide hid
      clear hid hcells hbw
      generalize hcc : (CL.getD i (0, 0)).2 = c2 at *
      have HCC := hide hcc
      clear hcc
      have hin2 : (i : Int) < (nc : Int) := by omega
      have hid1 : (id : Int) < (m : Int) := by omega
      have w1 : IntKind.i64.wrap ((id : Int) + 1 - 1) = id := by rw [wrapN _ (by omega) (by omega)]; omega
      have w2 : IntKind.i64.wrap (id : Int) = id := wrapN _ (by omega) (by omega)
      go_wp2_with fail
      obtain ⟨wA, hwA⟩ : ∃ x, x = wr.alloc (.cells #[.int .i64 ((id : Int) + 1), .int .i64 c2] 56) := ⟨_, rfl⟩
      rw [← hwA]
      have hvs : wA.heap.size = wr.heap.size + 1 := by rw [hwA]; simp
      have hgA : wr.grownBy wA none := by rw [hwA]; exact grown_alloc _ _ _
      have hRA : Row wA wr.heap.size 56 [.int .i64 ((id : Int) + 1), .int .i64 c2] := by rw [hwA]; exact Row.new wr 56 _
      clear hwA
      have a0 := hRA.cell (o := 0) rfl
      have a1 := hRA.cell (o := 1) rfl
      have HFA := hide (HV.out.1.grow0 hgA)
      have HBA : Hid (Below (w.heap.size + 1) wB wA) := below_grown HV.out.2 hgA (by rw [HBs.out]; exact Nat.le_refl _) (fun k hk => by cases hk)
      have a2 := HFA.out.at_ id hidm
      have af := HFA.out.free id
      have HOA := hide (HFA.out.own id hidm)
      have hlt1 := HFA.out.lt
      have hn1 : some (w.heap.size + 1) ≠ (V id).ownBlock := Ne.symm (HFA.out.notgs id hidm)
      have hn2 : some wr.heap.size ≠ (V id).ownBlock := fun h => by have := (HV.out.1.own id hidm).lt _ h.symm; omega
      have hvl : w.heap.size + 1 < wr.heap.size := HV.out.1.lt
      have hle := stC_le CL i id
      rw [HIN.out.lenC] at hle
      clear hgA hRA
      generalize hvb : wr.heap.size = vb at *
      have hltv : vb < wA.heap.size := by omega
      have HVS := hide hvs
      clear hvs
      refine wp_region_B (S := fun w' => w'.cell? ⟨vb, 0, none⟩ = some (.int .i64 ((id : Int) + 1)) ∧ w'.cell? ⟨vb, 1, none⟩ = some (.int .i64 c2) ∧ w'.cell? ⟨w.heap.size + 1, id, none⟩ = some (V id)) (B := fun j => decide (j < 16)) 17 (by kernel_rfl) rfl ?_
      have hS0 : wA.drew.cell? ⟨vb, 0, none⟩ = some (.int .i64 ((id : Int) + 1)) ∧ wA.drew.cell? ⟨vb, 1, none⟩ = some (.int .i64 c2) ∧ wA.drew.cell? ⟨w.heap.size + 1, id, none⟩ = some (V id) := ⟨a0, a1, a2⟩
      refine anyB_take (i := 0) (n := 16) (v := ?v1) rfl (by kernel_rfl) (by kernel_rfl) (by kernel_rfl) (by kernel_rfl) (fun _ _ _ h => h) hS0 (Or.inl ⟨by rfl, ?hy1⟩) ?rest1
      case hy1 => (intro w hSw; (try dsimp only at hSw); go_simp; (try with_reducible rfl))
      simp only [Act.put, List.setIfInBounds_toArray, List.set_cons_zero, List.set_cons_succ]
      refine anyB_take (i := 1) (n := 15) (v := ?v2) rfl (by kernel_rfl) (by kernel_rfl) (by kernel_rfl) (by kernel_rfl) (fun _ _ _ h => h) hS0 (Or.inl ⟨by rfl, ?hy2⟩) ?rest2
      case hy2 => (intro w hSw; (try dsimp only at hSw); go_simp; (try with_reducible rfl))
      simp only [Act.put, List.setIfInBounds_toArray, List.set_cons_zero, List.set_cons_succ]
      refine anyB_take (i := 2) (n := 14) (v := ?v3) rfl (by kernel_rfl) (by kernel_rfl) (by kernel_rfl) (by kernel_rfl) (fun _ _ _ h => h) hS0 (Or.inl ⟨by rfl, ?hy3⟩) ?rest3
      case hy3 => (intro w hSw; (try dsimp only at hSw); go_simp; (try with_reducible rfl))
      simp only [Act.put, List.setIfInBounds_toArray, List.set_cons_zero, List.set_cons_succ]
      refine anyB_take (i := 3) (n := 13) (v := ?v4) rfl (by kernel_rfl) (by kernel_rfl) (by kernel_rfl) (by kernel_rfl) (fun _ _ _ h => h) hS0 (Or.inl ⟨by rfl, ?hy4⟩) ?rest4
      case hy4 => (intro w hSw; (try dsimp only at hSw); go_simp; (try with_reducible rfl))
      simp only [Act.put, List.setIfInBounds_toArray, List.set_cons_zero, List.set_cons_succ]
      refine anyB_take (i := 4) (n := 12) (v := ?v5) rfl (by kernel_rfl) (by kernel_rfl) (by kernel_rfl) (by kernel_rfl) (fun _ _ _ h => h) hS0 (Or.inl ⟨by rfl, ?hy5⟩) ?rest5
      case hy5 => (intro w hSw; (try dsimp only at hSw); go_simp; (try with_reducible rfl))
      simp only [Act.put, List.setIfInBounds_toArray, List.set_cons_zero, List.set_cons_succ]
      refine anyB_take (i := 5) (n := 11) (v := ?v6) rfl (by kernel_rfl) (by kernel_rfl) (by kernel_rfl) (by kernel_rfl) (fun _ _ _ h => h) hS0 (Or.inl ⟨by rfl, ?hy6⟩) ?rest6
      case hy6 => (intro w hSw; (try dsimp only at hSw); go_simp; (try with_reducible rfl))
      simp only [Act.put, List.setIfInBounds_toArray, List.set_cons_zero, List.set_cons_succ]
      refine anyB_take (i := 6) (n := 10) (v := ?v7) rfl (by kernel_rfl) (by kernel_rfl) (by kernel_rfl) (by kernel_rfl) (fun _ _ _ h => h) hS0 (Or.inl ⟨by rfl, ?hy7⟩) ?rest7
      case hy7 => (intro w hSw; (try dsimp only at hSw); go_simp; (try with_reducible rfl))
      simp only [Act.put, List.setIfInBounds_toArray, List.set_cons_zero, List.set_cons_succ]
      refine anyB_take (i := 7) (n := 9) (v := ?v8) rfl (by kernel_rfl) (by kernel_rfl) (by kernel_rfl) (by kernel_rfl) (fun _ _ _ h => h) hS0 (Or.inl ⟨by rfl, ?hy8⟩) ?rest8
      case hy8 => (intro w hSw; (try dsimp only at hSw); go_simp; (try with_reducible rfl))
      simp only [Act.put, List.setIfInBounds_toArray, List.set_cons_zero, List.set_cons_succ]
      refine anyB_take (i := 8) (n := 8) (v := ?v9) rfl (by kernel_rfl) (by kernel_rfl) (by kernel_rfl) (by kernel_rfl) (fun _ _ _ h => h) hS0 (Or.inl ⟨by rfl, ?hy9⟩) ?rest9
      case hy9 => (intro w hSw; (try dsimp only at hSw); go_simp; (try with_reducible rfl))
      simp only [Act.put, List.setIfInBounds_toArray, List.set_cons_zero, List.set_cons_succ]
      refine anyB_take (i := 9) (n := 7) (v := ?v10) rfl (by kernel_rfl) (by kernel_rfl) (by kernel_rfl) (by kernel_rfl) (fun _ _ _ h => h) hS0 (Or.inl ⟨by rfl, ?hy10⟩) ?rest10
      case hy10 => (intro w hSw; (try dsimp only at hSw); go_simp; (try with_reducible rfl))
      simp only [Act.put, List.setIfInBounds_toArray, List.set_cons_zero, List.set_cons_succ]
      refine anyB_take (i := 10) (n := 6) (v := ?v11) rfl (by kernel_rfl) (by kernel_rfl) (by kernel_rfl) (by kernel_rfl) (fun _ _ _ h => h) hS0 (Or.inl ⟨by rfl, ?hy11⟩) ?rest11
      case hy11 => (intro w hSw; (try dsimp only at hSw); go_simp; (try with_reducible rfl))
      simp only [Act.put, List.setIfInBounds_toArray, List.set_cons_zero, List.set_cons_succ]
      refine anyB_take (i := 11) (n := 5) (v := ?v12) rfl (by kernel_rfl) (by kernel_rfl) (by kernel_rfl) (by kernel_rfl) (fun _ _ _ h => h) hS0 (Or.inl ⟨by rfl, ?hy12⟩) ?rest12
      case hy12 => (intro w hSw; (try dsimp only at hSw); go_simp; (try with_reducible rfl))
      simp only [Act.put, List.setIfInBounds_toArray, List.set_cons_zero, List.set_cons_succ]
      refine anyB_take (i := 12) (n := 4) (v := ?v13) rfl (by kernel_rfl) (by kernel_rfl) (by kernel_rfl) (by kernel_rfl) (fun _ _ _ h => h) hS0 (Or.inl ⟨by rfl, ?hy13⟩) ?rest13
      case hy13 => (intro w hSw; (try dsimp only at hSw); go_simp; (try with_reducible rfl))
      simp only [Act.put, List.setIfInBounds_toArray, List.set_cons_zero, List.set_cons_succ]
      refine anyB_one (i := 13) (n := 3) rfl (by kernel_rfl) (fun K13 hK13 => ?_)
      go_simp
      refine hK13.out _ _ (fun _ => ⟨alloc_cell a0, alloc_cell a1, alloc_cell a2⟩) ?_
      clear hK13
      clear K13
      try simp only [Act.put, List.setIfInBounds_toArray, List.set_cons_zero, List.set_cons_succ]
      refine anyB_one (i := 14) (n := 2) rfl (by kernel_rfl) (fun K14 hK14 => ?_)
      refine step_append_lies _ (by rfl) _ _ _ (by rfl) (w.heap.size + 1) 64 i64 _ 2 16 Yba.underlying61 H64.out.1 H64.out.2.1 H64.out.2.2.1 H64.out.2.2.2 rfl (by omega) (V id) (stC CL i id).length (stCells (stC CL i id)) (by rfl) ((HOA.out.alloc _).drew) ⟨wA.heap.size, 0, none⟩ 1 1 [Value.int .i64 c2, Value.pointer none] (by rfl) (by rfl) (World.news_of_block (cs := #[Value.int .i64 c2, Value.pointer none]) (t := 64) (fr := (0, 0)) (heap_alloc_new wA _)) (by simp [Value.oneCell']) (by omega) (by unfold maxLen; omega) (by omega) (by simp; omega) (wA.heap.size + 1) (by simp) ?_
      intro gg cap w1 hown1 hgrow hat hlt
      have hf1 := (hgrow.frozen_far ⟨w.heap.size + 1, id, none⟩ (by simp; omega) hn1).trans (alloc_frozen af hlt1)
      have hg1 := (hgrow.cell_far ⟨w.heap.size + 1, id, none⟩ (by simp; omega) hn1).trans (alloc_cell a2)
      have hg2 := (hgrow.cell_far ⟨vb, 0, none⟩ (by simp; omega) hn2).trans (alloc_cell a0)
      have hg3 := (hgrow.cell_far ⟨vb, 1, none⟩ (by simp; omega) hn2).trans (alloc_cell a1)
      refine hK14.out _ _ (fun _ => ⟨hg2, hg3, hg1⟩) ?_
      clear hK14
      clear K14
      try simp only [Act.put, List.setIfInBounds_toArray, List.set_cons_zero, List.set_cons_succ]
      refine anyB_take (i := 15) (n := 1) (v := ?v14) rfl (by kernel_rfl) (by kernel_rfl) (by kernel_rfl) (by kernel_rfl) (fun _ _ _ h => h) ⟨hg2, hg3, hg1⟩ (Or.inl ⟨by rfl, ?hy14⟩) ?rest14
      case hy14 => (intro w hSw; (try dsimp only at hSw); go_simp; (try with_reducible rfl))
      simp only [Act.put, List.setIfInBounds_toArray, List.set_cons_zero, List.set_cons_succ]
      refine anyB_one (i := 16) (n := 0) rfl (by kernel_rfl) (fun K16 hK16 => ?_)
      go_simp
      refine hK16.out _ _ (fun h => absurd h (by decide)) ?_
      clear hK16
      clear K16
      try simp only [Act.put, List.setIfInBounds_toArray, List.set_cons_zero, List.set_cons_succ]
      refine anyB_done (by kernel_rfl) ?_
      clear hg2 hg3
      have hgw : wA.grownBy w1 (V id).ownBlock := (grown_alloc wA _ _).trans ((grown_drew _ _).trans hgrow)
      have hrw : ∀ k, (V id).ownBlock = some k → w.heap.size + 1 ≤ k := fun k hk => (HOA.out.lt k hk).1
      have HW : Hid (Fam (w1.setCell ⟨w.heap.size + 1, id, none⟩ (.slice (some ⟨gg, 0, none⟩) ((stC CL i id).length + 1) cap)) (w.heap.size + 1) (w.heap.size + 1) m 64 2 (upd V id (.slice (some ⟨gg, 0, none⟩) ((stC CL i id).length + 1) cap)) (fun t => (stC CL (i + 1) t).length) (fun t => stCells (stC CL (i + 1) t)) ∧ Below (w.heap.size + 1) wB (w1.setCell ⟨w.heap.size + 1, id, none⟩ (.slice (some ⟨gg, 0, none⟩) ((stC CL i id).length + 1) cap))) := by
        refine ⟨fam_hit (HFA.out.put hidm hgw (Or.elim hat Or.inl (fun h => Or.inr (by omega))) hown1) (L' := fun t => stC CL (i + 1) t) (stC_hit CL i id (by rw [HIN.out.lenC]; exact hlt0) HID.out) rfl (by rw [HCC.out]) (fun t ht => stC_miss CL i t (by rw [HIN.out.lenC]; exact hlt0) (by rw [HID.out]; omega)), ?_⟩
        exact below_grown (below_grown HBA.out hgw (by rw [HBs.out]; exact Nat.le_refl _) hrw) (World.grownBy.ofSet w1 (w.heap.size + 1) id _) (by rw [HBs.out]; exact Nat.le_refl _) (fun k hk => by cases hk; omega)
      clear hgw hgrow hown1 hat hlt hf1 hg1 hrw
      go_wp2
      go_roundw
      case rel => exact ⟨i + 1, _, by go_num, by omega, HW⟩
      case measure => simp [intOf]; omega
    · have hd : decide ((i : Int) < (nc : Int)) = false := by simp; omega
      obtain rfl : i = nc := by omega
      have HF3 : Hid (Fam wr (w.heap.size + 1) (w.heap.size + 1) m 64 2 V (fun id => (stA CL RL aR 0 id).length) (fun id => stCells (stA CL RL aR 0 id))) := by
        have h := HV.out.1
        simp only [stA_zero, HIN.out.lenC]
        exact h
      have HB3 := hide HV.out.2
      have HRb : Hid (Row wr w.heap.size 39 (cfgCells m (.slice aC i cC) (.slice aR nr cR))) := (HV.out.2.block w.heap.size (by omega)).trans HB0.out
      have b11 := HRb.out.cell (o := 11) rfl
      clear HV
      go_wp2_with fail
      clear b11
      go_loopw [47] (fun jv wr => ∃ (j : Nat) (V : Nat → Value), jv = .int .i64 j ∧ j ≤ nr ∧ Hid (Fam wr (w.heap.size + 1) (w.heap.size + 1) m 64 2 V (fun id => (stA CL RL aR j id).length) (fun id => stCells (stA CL RL aR j id)) ∧ Below (w.heap.size + 1) wB wr)) (fun jv _ => nr - (intOf jv).toNat)
      case atStart => exact ⟨0, _, by go_num, Nat.zero_le _, HF3.out, HB3.out⟩
      case round =>
        clear HF3 HB3 HRb hd
        obtain ⟨j, V, rfl, hjr, HV⟩ := hrel
        have HRb : Hid (Row wr w.heap.size 39 (cfgCells m (.slice aC i cC) (.slice aR nr cR))) := (HV.out.2.block w.heap.size (by omega)).trans HB0.out
        have b11 := HRb.out.cell (o := 11) rfl
        by_cases hlt1 : j < nr
        · have hd : decide ((j : Int) < (nr : Int)) = true := by simp; omega
          obtain ⟨b, rfl, hb, hcells⟩ := HIN.out.rest (by omega)
          obtain ⟨hr3, hr4, hr5, hr6⟩ := HIN.out.rngR j
          obtain ⟨id, hidm, hid⟩ := HIN.out.memR j hlt1
          obtain ⟨hc0, hc1, hc2, hc3⟩ := hcells j hlt1
          have hbw : Below w.heap.size w wr := HWw.out.trans (HV.out.2.mono (by omega))
          rw [← hbw.cell (p := ⟨b, j * 4, none⟩) hb] at hc0
          rw [← hbw.cell (p := ⟨b, j * 4 + 1, none⟩) hb] at hc1
          rw [hid] at hc0
          have HID := hide hid
          clear hid hcells hbw hc2 hc3
          generalize hcc : (RL.getD j (0, 0, 0, .empty)).2.1 = c2 at *
          have HCC := hide hcc
          clear hcc
          have hin2 : (j : Int) < (nr : Int) := by omega
          have hid1 : (id : Int) < (m : Int) := by omega
          have w1 : IntKind.i64.wrap ((id : Int) + 1 - 1) = id := by rw [wrapN _ (by omega) (by omega)]; omega
          have w2 : IntKind.i64.wrap (id : Int) = id := wrapN _ (by omega) (by omega)
          go_wp2_with fail
          clear b11
          have a2 := HV.out.1.at_ id hidm
          have af := HV.out.1.free id
          have HOA := hide (HV.out.1.own id hidm)
          have hlg := HV.out.1.lt
          have hn1 : some (w.heap.size + 1) ≠ (V id).ownBlock := Ne.symm (HV.out.1.notgs id hidm)
          have hn2 : some b ≠ (V id).ownBlock := fun h => by have := (HV.out.1.own id hidm).lt _ h.symm; omega
          have hle := stA_le CL RL (some ⟨b, 0, none⟩) j id
          rw [HIN.out.lenC] at hle
          refine wp_region_B (S := fun w' => w'.cell? ⟨b, j * 4, none⟩ = some (.int .i64 ((id : Int) + 1)) ∧ w'.cell? ⟨b, j * 4 + 1, none⟩ = some (.int .i64 c2) ∧ w'.cell? ⟨w.heap.size + 1, id, none⟩ = some (V id)) (B := fun j => decide (j < 23)) 24 (by kernel_rfl) rfl ?_
          have hS0 : wr.drew.cell? ⟨b, j * 4, none⟩ = some (.int .i64 ((id : Int) + 1)) ∧ wr.drew.cell? ⟨b, j * 4 + 1, none⟩ = some (.int .i64 c2) ∧ wr.drew.cell? ⟨w.heap.size + 1, id, none⟩ = some (V id) := ⟨hc0, hc1, a2⟩
          refine anyB_take (i := 0) (n := 23) (v := ?v15) rfl (by kernel_rfl) (by kernel_rfl) (by kernel_rfl) (by kernel_rfl) (fun _ _ _ h => h) hS0 (Or.inl ⟨by rfl, ?hy15⟩) ?rest15
          case hy15 => (intro w hSw; (try dsimp only at hSw); go_simp; (try with_reducible rfl))
          simp only [Act.put, List.setIfInBounds_toArray, List.set_cons_zero, List.set_cons_succ]
          refine anyB_take (i := 1) (n := 22) (v := ?v16) rfl (by kernel_rfl) (by kernel_rfl) (by kernel_rfl) (by kernel_rfl) (fun _ _ _ h => h) hS0 (Or.inl ⟨by rfl, ?hy16⟩) ?rest16
          case hy16 => (intro w hSw; (try dsimp only at hSw); go_simp; (try with_reducible rfl))
          simp only [Act.put, List.setIfInBounds_toArray, List.set_cons_zero, List.set_cons_succ]
          refine anyB_take (i := 2) (n := 21) (v := ?v17) rfl (by kernel_rfl) (by kernel_rfl) (by kernel_rfl) (by kernel_rfl) (fun _ _ _ h => h) hS0 (Or.inl ⟨by rfl, ?hy17⟩) ?rest17
          case hy17 => (intro w hSw; (try dsimp only at hSw); go_simp; (try with_reducible rfl))
          simp only [Act.put, List.setIfInBounds_toArray, List.set_cons_zero, List.set_cons_succ]
          refine anyB_take (i := 3) (n := 20) (v := ?v18) rfl (by kernel_rfl) (by kernel_rfl) (by kernel_rfl) (by kernel_rfl) (fun _ _ _ h => h) hS0 (Or.inl ⟨by rfl, ?hy18⟩) ?rest18
          case hy18 => (intro w hSw; (try dsimp only at hSw); go_simp; (try with_reducible rfl))
          simp only [Act.put, List.setIfInBounds_toArray, List.set_cons_zero, List.set_cons_succ]
          refine anyB_take (i := 4) (n := 19) (v := ?v19) rfl (by kernel_rfl) (by kernel_rfl) (by kernel_rfl) (by kernel_rfl) (fun _ _ _ h => h) hS0 (Or.inl ⟨by rfl, ?hy19⟩) ?rest19
          case hy19 => (intro w hSw; (try dsimp only at hSw); go_simp; (try with_reducible rfl))
          simp only [Act.put, List.setIfInBounds_toArray, List.set_cons_zero, List.set_cons_succ]
          refine anyB_take (i := 5) (n := 18) (v := ?v20) rfl (by kernel_rfl) (by kernel_rfl) (by kernel_rfl) (by kernel_rfl) (fun _ _ _ h => h) hS0 (Or.inl ⟨by rfl, ?hy20⟩) ?rest20
          case hy20 => (intro w hSw; (try dsimp only at hSw); go_simp; (try with_reducible rfl))
          simp only [Act.put, List.setIfInBounds_toArray, List.set_cons_zero, List.set_cons_succ]
          refine anyB_take (i := 6) (n := 17) (v := ?v21) rfl (by kernel_rfl) (by kernel_rfl) (by kernel_rfl) (by kernel_rfl) (fun _ _ _ h => h) hS0 (Or.inl ⟨by rfl, ?hy21⟩) ?rest21
          case hy21 => (intro w hSw; (try dsimp only at hSw); go_simp; (try with_reducible rfl))
          simp only [Act.put, List.setIfInBounds_toArray, List.set_cons_zero, List.set_cons_succ]
          refine anyB_take (i := 7) (n := 16) (v := ?v22) rfl (by kernel_rfl) (by kernel_rfl) (by kernel_rfl) (by kernel_rfl) (fun _ _ _ h => h) hS0 (Or.inl ⟨by rfl, ?hy22⟩) ?rest22
          case hy22 => (intro w hSw; (try dsimp only at hSw); go_simp; (try with_reducible rfl))
          simp only [Act.put, List.setIfInBounds_toArray, List.set_cons_zero, List.set_cons_succ]
          refine anyB_take (i := 8) (n := 15) (v := ?v23) rfl (by kernel_rfl) (by kernel_rfl) (by kernel_rfl) (by kernel_rfl) (fun _ _ _ h => h) hS0 (Or.inl ⟨by rfl, ?hy23⟩) ?rest23
          case hy23 => (intro w hSw; (try dsimp only at hSw); go_simp; (try with_reducible rfl))
          simp only [Act.put, List.setIfInBounds_toArray, List.set_cons_zero, List.set_cons_succ]
          refine anyB_take (i := 9) (n := 14) (v := ?v24) rfl (by kernel_rfl) (by kernel_rfl) (by kernel_rfl) (by kernel_rfl) (fun _ _ _ h => h) hS0 (Or.inl ⟨by rfl, ?hy24⟩) ?rest24
          case hy24 => (intro w hSw; (try dsimp only at hSw); go_simp; (try with_reducible rfl))
          simp only [Act.put, List.setIfInBounds_toArray, List.set_cons_zero, List.set_cons_succ]
          refine anyB_take (i := 10) (n := 13) (v := ?v25) rfl (by kernel_rfl) (by kernel_rfl) (by kernel_rfl) (by kernel_rfl) (fun _ _ _ h => h) hS0 (Or.inl ⟨by rfl, ?hy25⟩) ?rest25
          case hy25 => (intro w hSw; (try dsimp only at hSw); go_simp; (try with_reducible rfl))
          simp only [Act.put, List.setIfInBounds_toArray, List.set_cons_zero, List.set_cons_succ]
          refine anyB_take (i := 11) (n := 12) (v := ?v26) rfl (by kernel_rfl) (by kernel_rfl) (by kernel_rfl) (by kernel_rfl) (fun _ _ _ h => h) hS0 (Or.inl ⟨by rfl, ?hy26⟩) ?rest26
          case hy26 => (intro w hSw; (try dsimp only at hSw); go_simp; (try with_reducible rfl))
          simp only [Act.put, List.setIfInBounds_toArray, List.set_cons_zero, List.set_cons_succ]
          refine anyB_take (i := 12) (n := 11) (v := ?v27) rfl (by kernel_rfl) (by kernel_rfl) (by kernel_rfl) (by kernel_rfl) (fun _ _ _ h => h) hS0 (Or.inl ⟨by rfl, ?hy27⟩) ?rest27
          case hy27 => (intro w hSw; (try dsimp only at hSw); go_simp; (try with_reducible rfl))
          simp only [Act.put, List.setIfInBounds_toArray, List.set_cons_zero, List.set_cons_succ]
          refine anyB_take (i := 13) (n := 10) (v := ?v28) rfl (by kernel_rfl) (by kernel_rfl) (by kernel_rfl) (by kernel_rfl) (fun _ _ _ h => h) hS0 (Or.inl ⟨by rfl, ?hy28⟩) ?rest28
          case hy28 => (intro w hSw; (try dsimp only at hSw); go_simp; (try with_reducible rfl))
          simp only [Act.put, List.setIfInBounds_toArray, List.set_cons_zero, List.set_cons_succ]
          refine anyB_take (i := 14) (n := 9) (v := ?v29) rfl (by kernel_rfl) (by kernel_rfl) (by kernel_rfl) (by kernel_rfl) (fun _ _ _ h => h) hS0 (Or.inl ⟨by rfl, ?hy29⟩) ?rest29
          case hy29 => (intro w hSw; (try dsimp only at hSw); go_simp; (try with_reducible rfl))
          simp only [Act.put, List.setIfInBounds_toArray, List.set_cons_zero, List.set_cons_succ]
          refine anyB_take (i := 15) (n := 8) (v := ?v30) rfl (by kernel_rfl) (by kernel_rfl) (by kernel_rfl) (by kernel_rfl) (fun _ _ _ h => h) hS0 (Or.inl ⟨by rfl, ?hy30⟩) ?rest30
          case hy30 => (intro w hSw; (try dsimp only at hSw); go_simp; (try with_reducible rfl))
          simp only [Act.put, List.setIfInBounds_toArray, List.set_cons_zero, List.set_cons_succ]
          refine anyB_take (i := 16) (n := 7) (v := ?v31) rfl (by kernel_rfl) (by kernel_rfl) (by kernel_rfl) (by kernel_rfl) (fun _ _ _ h => h) hS0 (Or.inl ⟨by rfl, ?hy31⟩) ?rest31
          case hy31 => (intro w hSw; (try dsimp only at hSw); go_simp; (try with_reducible rfl))
          simp only [Act.put, List.setIfInBounds_toArray, List.set_cons_zero, List.set_cons_succ]
          refine anyB_take (i := 17) (n := 6) (v := ?v32) rfl (by kernel_rfl) (by kernel_rfl) (by kernel_rfl) (by kernel_rfl) (fun _ _ _ h => h) hS0 (Or.inl ⟨by rfl, ?hy32⟩) ?rest32
          case hy32 => (intro w hSw; (try dsimp only at hSw); go_simp; (try with_reducible rfl))
          simp only [Act.put, List.setIfInBounds_toArray, List.set_cons_zero, List.set_cons_succ]
          refine anyB_take (i := 18) (n := 5) (v := ?v33) rfl (by kernel_rfl) (by kernel_rfl) (by kernel_rfl) (by kernel_rfl) (fun _ _ _ h => h) hS0 (Or.inl ⟨by rfl, ?hy33⟩) ?rest33
          case hy33 => (intro w hSw; (try dsimp only at hSw); go_simp; (try with_reducible rfl))
          simp only [Act.put, List.setIfInBounds_toArray, List.set_cons_zero, List.set_cons_succ]
          refine anyB_take (i := 19) (n := 4) (v := ?v34) rfl (by kernel_rfl) (by kernel_rfl) (by kernel_rfl) (by kernel_rfl) (fun _ _ _ h => h) hS0 (Or.inl ⟨by rfl, ?hy34⟩) ?rest34
          case hy34 => (intro w hSw; (try dsimp only at hSw); go_simp; (try with_reducible rfl))
          simp only [Act.put, List.setIfInBounds_toArray, List.set_cons_zero, List.set_cons_succ]
          refine anyB_one (i := 20) (n := 3) rfl (by kernel_rfl) (fun K20 hK20 => ?_)
          go_simp
          refine hK20.out _ _ (fun _ => ⟨alloc_cell hc0, alloc_cell hc1, alloc_cell a2⟩) ?_
          clear hK20
          clear K20
          try simp only [Act.put, List.setIfInBounds_toArray, List.set_cons_zero, List.set_cons_succ]
          refine anyB_one (i := 21) (n := 2) rfl (by kernel_rfl) (fun K21 hK21 => ?_)
          refine step_append_lies _ (by rfl) _ _ _ (by rfl) (w.heap.size + 1) 64 i64 _ 2 16 Yba.underlying61 H64.out.1 H64.out.2.1 H64.out.2.2.1 H64.out.2.2.2 rfl (by omega) (V id) (stA CL RL (some ⟨b, 0, none⟩) j id).length (stCells (stA CL RL (some ⟨b, 0, none⟩) j id)) (by rfl) ((HOA.out.alloc _).drew) ⟨wr.heap.size, 0, none⟩ 1 1 [Value.int .i64 c2, Value.pointer (some ⟨b, j * 4, none⟩)] (by rfl) (by rfl) (World.news_of_block (cs := #[Value.int .i64 c2, Value.pointer (some ⟨b, j * 4, none⟩)]) (t := 64) (fr := (0, 0)) (heap_alloc_new wr _)) (by simp [Value.oneCell']) (by omega) (by unfold maxLen; omega) (by omega) (by simp; omega) (wr.heap.size + 1) (by simp) ?_
          intro gg cap w1 hown1 hgrow hat hlt
          have hf1 := (hgrow.frozen_far ⟨w.heap.size + 1, id, none⟩ (by simp; omega) hn1).trans (alloc_frozen af hlg)
          have hg1 := (hgrow.cell_far ⟨w.heap.size + 1, id, none⟩ (by simp; omega) hn1).trans (alloc_cell a2)
          have hg2 := (hgrow.cell_far ⟨b, j * 4, none⟩ (by simp; omega) hn2).trans (alloc_cell hc0)
          have hg3 := (hgrow.cell_far ⟨b, j * 4 + 1, none⟩ (by simp; omega) hn2).trans (alloc_cell hc1)
          refine hK21.out _ _ (fun _ => ⟨hg2, hg3, hg1⟩) ?_
          clear hK21
          clear K21
          try simp only [Act.put, List.setIfInBounds_toArray, List.set_cons_zero, List.set_cons_succ]
          refine anyB_take (i := 22) (n := 1) (v := ?v35) rfl (by kernel_rfl) (by kernel_rfl) (by kernel_rfl) (by kernel_rfl) (fun _ _ _ h => h) ⟨hg2, hg3, hg1⟩ (Or.inl ⟨by rfl, ?hy35⟩) ?rest35
          case hy35 => (intro w hSw; (try dsimp only at hSw); go_simp; (try with_reducible rfl))
          simp only [Act.put, List.setIfInBounds_toArray, List.set_cons_zero, List.set_cons_succ]
          refine anyB_one (i := 23) (n := 0) rfl (by kernel_rfl) (fun K23 hK23 => ?_)
          go_simp
          refine hK23.out _ _ (fun h => absurd h (by decide)) ?_
          clear hK23
          clear K23
          try simp only [Act.put, List.setIfInBounds_toArray, List.set_cons_zero, List.set_cons_succ]
          refine anyB_done (by kernel_rfl) ?_
          clear hg2 hg3
          have hgw : wr.grownBy w1 (V id).ownBlock := (grown_alloc wr _ _).trans ((grown_drew _ _).trans hgrow)
          have hrw : ∀ k, (V id).ownBlock = some k → w.heap.size + 1 ≤ k := fun k hk => (HOA.out.lt k hk).1
          have HW : Hid (Fam (w1.setCell ⟨w.heap.size + 1, id, none⟩ (.slice (some ⟨gg, 0, none⟩) ((stA CL RL (some ⟨b, 0, none⟩) j id).length + 1) cap)) (w.heap.size + 1) (w.heap.size + 1) m 64 2 (upd V id (.slice (some ⟨gg, 0, none⟩) ((stA CL RL (some ⟨b, 0, none⟩) j id).length + 1) cap)) (fun t => (stA CL RL (some ⟨b, 0, none⟩) (j + 1) t).length) (fun t => stCells (stA CL RL (some ⟨b, 0, none⟩) (j + 1) t)) ∧ Below (w.heap.size + 1) wB (w1.setCell ⟨w.heap.size + 1, id, none⟩ (.slice (some ⟨gg, 0, none⟩) ((stA CL RL (some ⟨b, 0, none⟩) j id).length + 1) cap))) := by
            refine ⟨fam_hit (HV.out.1.put hidm hgw (Or.elim hat Or.inl (fun h => Or.inr (by omega))) hown1) (L' := fun t => stA CL RL (some ⟨b, 0, none⟩) (j + 1) t) (stA_hit CL RL _ j id HID.out) rfl (by rw [HCC.out]; rfl) (fun t ht => stA_miss CL RL _ j t (by rw [HID.out]; omega)), ?_⟩
            exact below_grown (below_grown HV.out.2 hgw (by rw [HBs.out]; exact Nat.le_refl _) hrw) (World.grownBy.ofSet w1 (w.heap.size + 1) id _) (by rw [HBs.out]; exact Nat.le_refl _) (fun k hk => by cases hk; omega)
          clear hgw hgrow hown1 hat hlt hf1 hg1 hrw
          go_wp2
          go_roundw
          case rel => exact ⟨j + 1, _, by go_num, by omega, HW⟩
          case measure => simp [intOf]; omega
        · have hd : decide ((j : Int) < (nr : Int)) = false := by simp; omega
          obtain rfl : j = nr := by omega
          have HF4 := hide HV.out.1
          have HB4 := hide HV.out.2
          have hGs := HV.out.1.lt
          have b0 := HRb.out.cell (o := 0) rfl
          clear HV HRb b11
          go_wp2_with (at_make; refine wpList_make_full _ rfl (.tmp 79) (.tmp 79) 41 rfl wr.heap.size 43 i43 (.slice none 0 0) 1 Yba.underlying41 H43.out.1 H43.out.2.1 H43.out.2.2.1 .i64 .i64 m m m rfl rfl rfl rfl (by rw [H43.out.2.2.2]; omega) (by unfold maxLen; omega) (Nat.le_refl _) ?_; intro w3 hown3 hgrow3; have HO3 := hide hown3; have HG3 := hide hgrow3; clear hown3 hgrow3 b0)
          have HSt : Hid (Stat w.heap.size wr.heap.size m V) := ⟨HF4.out.apart, HF4.out.notgs, fun i hi b hb => (HF4.out.own i hi).lt b hb, hGs⟩
          have HL3 : Hid (L3 wB w3 w.heap.size wr.heap.size m V (fun _ => .slice none 0 0) (stA CL RL aR j) (fun _ => []) 0) := by
            refine ⟨below_grown HB4.out HG3.out (by rw [HBs.out]; exact Nat.le_refl _) (fun k hk => by cases hk), fun t _ ht => ?_, ?_⟩
            · have h := HF4.out.grow0 HG3.out
              exact ⟨h.at_ t ht, h.own t ht⟩
            · have ho := HO3.out
              refine ⟨fun i hi => ?_, fun o => ho.frozenAt o, (ho.lt _ rfl).2, fun i hi => ⟨rfl, Or.inl ⟨rfl, rfl⟩⟩, fun i j _ _ _ b hb => by simp [Value.ownBlock] at hb, fun i _ => by simp [Value.ownBlock]⟩
              rw [ho.cellAt i (by omega)]
              simp only [Value.cells, Nat.mul_one]
              rw [toList_madeCells_one]
              simp [hi]
          clear HF4 HB4 HO3 HG3
          generalize hG : wr.heap.size = G at *
          go_loopw [83] (fun tv wr => ∃ (t : Nat) (VA : Nat → Value) (PR : Nat → List Pr), tv = .int .i64 t ∧ t ≤ m ∧ Hid (L3 wB wr w.heap.size G m V VA (stA CL RL aR j) PR t ∧ (∀ u, t ≤ u → PR u = []) ∧ (∀ u, u < t → Made (frOf RL) (vlOf RL) PV (stA CL RL aR j) u (PR u)))) (fun tv _ => m - (intOf tv).toNat)
          case atStart => exact ⟨0, _, _, by go_num, Nat.zero_le _, HL3.out, fun _ _ => rfl, fun u hu => by omega⟩
          case round =>
            clear HL3 hd
            obtain ⟨t, VA, PR, rfl, htm, HI⟩ := hrel
            by_cases hlt2 : t < m
            · have hd : decide ((t : Int) < (m : Int)) = true := by simp; omega
              have htm2 : (t : Int) < (m : Int) := by omega
              obtain ⟨c0, ho⟩ := HI.out.1.st t (Nat.le_refl _) hlt2
              have hnl := stA_le CL RL aR j t
              rw [HIN.out.lenC] at hnl
              have HSLe : Hid (∃ S, stA CL RL aR j t = S) := ⟨_, rfl⟩
              obtain ⟨S, hS⟩ := HSLe.out
              clear HSLe
              rw [hS] at ho hnl
              have HSE := hide hS
              clear hS
              obtain ⟨aV, capV, hVe, hcapV, hform⟩ := own_form ho
              rw [hVe] at c0 ho
              have HVE := hide hVe
              clear hVe
              have HOV := hide ho
              clear ho
              have HFO := hide hform
              clear hform
              go_wp2_with fail
              refine (sort_own _ _ aV capV S HOV.out (by omega)).mono ?_
              rintro e wS ⟨rfl, L', hsh, hso, hcl, hgr⟩
              have HL4 : Hid (L3 wB wS w.heap.size G m V VA (stA CL RL aR j) PR (t + 1)) := HI.out.1.sorted HSt.out hlt2 HBs.out (by rw [HVE.out]; exact hgr)
              have HSH := hide hsh
              have HSO := hide hso
              have HCL := hide hcl
              clear hsh hso hcl hgr c0 HOV
              have hlk := HMAP.out wS (HWw.out.trans (HL4.out.below.mono (by omega))) (t + 1) (by omega) (by omega)
              rw [show ((t + 1 : Nat) : Int) = (t : Int) + 1 by omega] at hlk
              go_wp2_with fail
              obtain ⟨wN, hwN⟩ : ∃ x, x = wS.alloc (.cells #[.int .i64 0, .int .i64 0, .string (PV (t + 1))] 48) := ⟨_, rfl⟩
              rw [← hwN]
              have hgN : wS.grownBy wN none := by rw [hwN]; exact grown_alloc _ _ _
              have HRN : Hid (Row wN wS.heap.size 48 [.int .i64 0, .int .i64 0, .string (PV (t + 1))]) := by rw [hwN]; exact Row.new wS 48 _
              have hPt : upd PR t [] = PR := by
                funext u
                by_cases e : u = t
                · rw [e, upd_same, HI.out.2.1 t (Nat.le_refl _)]
                · rw [upd_other _ _ e]
              have HFN : Hid (Fam wN G G m 48 3 VA (fun u => (upd PR t [] u).length) (fun u => prCells (upd PR t [] u))) := by rw [hPt]; exact HL4.out.fam.grow0 hgN
              have hGS : G < wS.heap.size := HL4.out.fam.lt
              have HBN : Hid (Below G wS wN) := below_grown (Below.refl _ _) hgN (Nat.le_of_lt hGS) (fun k hk => by cases hk)
              have HNN : Hid (∀ u, u < m → (VA u).ownBlock ≠ some wS.heap.size) := fun u hu h => by have := ((HL4.out.fam.own u hu).lt _ h).2; omega
              clear hwN hgN hlk hPt
              generalize hnb : wS.heap.size = nb at *
              go_loopw [97, 14] (fun kv sv wr => ∃ (k : Nat) (f tt : Int) (p : ByteArray) (st : Bool) (VA : Nat → Value) (c : List Pr), kv = .int .i64 k ∧ sv = .bool st ∧ k ≤ S.length ∧ -65536 ≤ f ∧ f ≤ 98302 ∧ c.length ≤ k ∧ Hid (Row wr nb 48 [.int .i64 f, .int .i64 tt, .string p] ∧ Fam wr G G m 48 3 VA (fun u => (upd PR t c u).length) (fun u => prCells (upd PR t c u)) ∧ Below G wS wr ∧ (∀ u, u < m → (VA u).ownBlock ≠ some nb) ∧ c ++ run (frOf RL) (vlOf RL) (PV (t + 1)) (from_ L' k S.length) f p st = run (frOf RL) (vlOf RL) (PV (t + 1)) (from_ L' 0 S.length) 0 (PV (t + 1)) true)) (fun kv _ _ => S.length - (intOf kv).toNat)
              case atStart => exact ⟨0, 0, 0, PV (t + 1), true, VA, [], by go_num, rfl, Nat.zero_le _, by omega, by omega, Nat.le_refl _, HRN.out, HFN.out, HBN.out, HNN.out, rfl⟩
              case round =>
                clear HRN HFN HBN HNN hd
                obtain ⟨k, f, tt, p, st, VA, c, rfl, rfl, hkn, hf1, hf2, hcl, HJ⟩ := hrel
                by_cases hlt3 : k < S.length
                · have hd : decide ((k : Int) < (S.length : Int)) = true := by simp; omega
                  obtain ⟨gV, rfl, hgV1, hgV2⟩ := HFO.out (by omega)
                  obtain ⟨u, hu0, hu1, hu⟩ := HSH.out.inn (Nat.zero_le k) hlt3
                  have hel := stA_elem HIN.out j t u (by rw [HSE.out]; exact hu1)
                  rw [HSE.out, ← hu] at hel
                  obtain ⟨he1, he2, hpt⟩ := hel
                  obtain ⟨q0, q1⟩ := HCL.out gV rfl k hlt3
                  have hgG : gV < G := (HSt.out.lo t hlt2 gV (by rw [HVE.out]; rfl)).2
                  rw [← HJ.out.2.2.1.cell (p := ⟨gV, k * 2, none⟩) hgG] at q0
                  rw [← HJ.out.2.2.1.cell (p := ⟨gV, k * 2 + 1, none⟩) hgG] at q1
                  have HRN := hide (fun h => run_none (n := S.length) (k := k) hlt3 HJ.out.2.2.2.2 h)
                  have HRS := hide (fun a h => run_some (n := S.length) (k := k) (a := a) hlt3 HJ.out.2.2.2.2 h)
                  generalize hek : (L' k).1 = e1 at *
                  generalize hpk : (L' k).2.1 = ptr at *
                  have n0 := HJ.out.1.cell (o := 0) rfl
                  have n1 := HJ.out.1.cell (o := 1) rfl
                  have n2 := HJ.out.1.cell (o := 2) rfl
                  have nf0 := HJ.out.1.frozen 0
                  have nf1 := HJ.out.1.frozen 1
                  have nf2 := HJ.out.1.frozen 2
                  have hnbl := HJ.out.1.lt
                  have hkn2 : (k : Int) < (S.length : Int) := by omega
                  have htm3 : (t : Int) < (m : Int) := by omega
                  clear hu hek hpk
                  rcases hpt with rfl | ⟨q, hq, rfl⟩
                  · have HRN' := hide (HRN.out rfl)
                    clear HRN HRS
                    cases st with
                    | false =>
                      go_wp2
                      go_roundw
                      case rel => exact ⟨k + 1, f, tt, p, false, VA, c, by go_num, rfl, by omega, hf1, hf2, by omega, HJ.out.1.grown (grown_alloc _ _ none) (by simp), HJ.out.2.1.grow0 (grown_alloc _ _ none), below_grown HJ.out.2.2.1 (grown_alloc _ _ none) (by omega) (fun k hk => by cases hk), HJ.out.2.2.2.1, by have h := HRN'.out; simpa using h⟩
                      case measure => simp [intOf]; omega
                    | true =>
                      by_cases hfe : f < e1
                      · have hdf : decide (f < e1) = true := by simp; omega
                        go_wp2_with fail
                        obtain ⟨wT, hwT⟩ : ∃ x, x = (wr.setCell ⟨nb, 1, none⟩ (.int .i64 e1)).alloc (.cells #[.int .i64 e1, .pointer none] 64) := ⟨_, rfl⟩
                        rw [← hwT]
                        have HRT : Hid (Row wT nb 48 [.int .i64 f, .int .i64 e1, .string p]) := by rw [hwT]; exact (HJ.out.1.set 1 _).grown (grown_alloc _ _ none) (by simp)
                        have HST : Hid (Row wT wr.heap.size 64 [.int .i64 e1, .pointer none]) := by rw [hwT]; exact (show (wr.setCell ⟨nb, 1, none⟩ (.int .i64 e1)).heap.size = wr.heap.size by simp [World.setCell]) ▸ Row.new (wr.setCell ⟨nb, 1, none⟩ (.int .i64 e1)) 64 _
                        have HFT : Hid (Fam wT G G m 48 3 VA (fun u => (upd PR t c u).length) (fun u => prCells (upd PR t c u))) := by rw [hwT]; exact (HJ.out.2.1.grow (World.grownBy.ofSet _ nb 1 _) (by simp; omega) (fun u hu => Or.inr (HJ.out.2.2.2.1 u hu))).grow0 (grown_alloc _ _ none)
                        have HBT : Hid (Below G wS wT) := by rw [hwT]; exact below_grown (below_grown HJ.out.2.2.1 (World.grownBy.ofSet _ nb 1 _) (by omega) (fun k hk => by cases hk; omega)) (grown_alloc _ _ none) (by omega) (fun k hk => by cases hk)
                        have hTs : wT.heap.size = wr.heap.size + 1 := by rw [hwT]; simp [World.setCell]
                        clear hwT
                        have a0 := HRT.out.cell (o := 0) rfl
                        have a1 := HRT.out.cell (o := 1) rfl
                        have a2 := HRT.out.cell (o := 2) rfl
                        have a3 := HFT.out.at_ t hlt2
                        have af := HFT.out.free t
                        have HOA : Hid (wT.ownsRow G 48 3 (VA t) c.length (prCells c)) := by have h := HFT.out.own t hlt2; simp only [upd_same] at h; exact h
                        have hlG := HFT.out.lt
                        have hn1 : some G ≠ (VA t).ownBlock := Ne.symm (HFT.out.notgs t hlt2)
                        have hn2 : some nb ≠ (VA t).ownBlock := Ne.symm (HJ.out.2.2.2.1 t hlt2)
                        have hn3 : (VA t).ownBlock ≠ some wr.heap.size := fun h => by have := ((HJ.out.2.1.own t hlt2).lt _ h).2; omega
                        have hnT : nb < wT.heap.size := by omega
                        have HTS := hide hTs
                        clear hTs n0 n1 n2 nf0 nf1 nf2
                        refine wp_region_B (S := fun w' => w'.cell? ⟨nb, 0, none⟩ = some (.int .i64 f) ∧ w'.cell? ⟨nb, 1, none⟩ = some (.int .i64 e1) ∧ w'.cell? ⟨nb, 2, none⟩ = some (.string p) ∧ w'.cell? ⟨G, t, none⟩ = some (VA t)) (B := fun j => decide (j < 10)) 11 (by kernel_rfl) rfl ?_
                        have hS0 : wT.drew.cell? ⟨nb, 0, none⟩ = some (.int .i64 f) ∧ wT.drew.cell? ⟨nb, 1, none⟩ = some (.int .i64 e1) ∧ wT.drew.cell? ⟨nb, 2, none⟩ = some (.string p) ∧ wT.drew.cell? ⟨G, t, none⟩ = some (VA t) := ⟨a0, a1, a2, a3⟩
                        refine anyB_take (i := 0) (n := 10) (v := ?v36) rfl (by kernel_rfl) (by kernel_rfl) (by kernel_rfl) (by kernel_rfl) (fun _ _ _ h => h) hS0 (Or.inl ⟨by rfl, ?hy36⟩) ?rest36
                        case hy36 => (intro w hSw; (try dsimp only at hSw); go_simp; (try with_reducible rfl))
                        simp only [Act.put, List.setIfInBounds_toArray, List.set_cons_zero, List.set_cons_succ]
                        refine anyB_take (i := 1) (n := 9) (v := ?v37) rfl (by kernel_rfl) (by kernel_rfl) (by kernel_rfl) (by kernel_rfl) (fun _ _ _ h => h) hS0 (Or.inl ⟨by rfl, ?hy37⟩) ?rest37
                        case hy37 => (intro w hSw; (try dsimp only at hSw); go_simp; (try with_reducible rfl))
                        simp only [Act.put, List.setIfInBounds_toArray, List.set_cons_zero, List.set_cons_succ]
                        refine anyB_take (i := 2) (n := 8) (v := ?v38) rfl (by kernel_rfl) (by kernel_rfl) (by kernel_rfl) (by kernel_rfl) (fun _ _ _ h => h) hS0 (Or.inl ⟨by rfl, ?hy38⟩) ?rest38
                        case hy38 => (intro w hSw; (try dsimp only at hSw); go_simp; (try with_reducible rfl))
                        simp only [Act.put, List.setIfInBounds_toArray, List.set_cons_zero, List.set_cons_succ]
                        refine anyB_take (i := 3) (n := 7) (v := ?v39) rfl (by kernel_rfl) (by kernel_rfl) (by kernel_rfl) (by kernel_rfl) (fun _ _ _ h => h) hS0 (Or.inl ⟨by rfl, ?hy39⟩) ?rest39
                        case hy39 => (intro w hSw; (try dsimp only at hSw); go_simp; (try with_reducible rfl))
                        simp only [Act.put, List.setIfInBounds_toArray, List.set_cons_zero, List.set_cons_succ]
                        refine anyB_take (i := 4) (n := 6) (v := ?v40) rfl (by kernel_rfl) (by kernel_rfl) (by kernel_rfl) (by kernel_rfl) (fun _ _ _ h => h) hS0 (Or.inl ⟨by rfl, ?hy40⟩) ?rest40
                        case hy40 => (intro w hSw; (try dsimp only at hSw); go_simp; (try with_reducible rfl))
                        simp only [Act.put, List.setIfInBounds_toArray, List.set_cons_zero, List.set_cons_succ]
                        refine anyB_take (i := 5) (n := 5) (v := ?v41) rfl (by kernel_rfl) (by kernel_rfl) (by kernel_rfl) (by kernel_rfl) (fun _ _ _ h => h) hS0 (Or.inl ⟨by rfl, ?hy41⟩) ?rest41
                        case hy41 => (intro w hSw; (try dsimp only at hSw); go_simp; (try with_reducible rfl))
                        simp only [Act.put, List.setIfInBounds_toArray, List.set_cons_zero, List.set_cons_succ]
                        refine anyB_take (i := 6) (n := 4) (v := ?v42) rfl (by kernel_rfl) (by kernel_rfl) (by kernel_rfl) (by kernel_rfl) (fun _ _ _ h => h) hS0 (Or.inl ⟨by rfl, ?hy42⟩) ?rest42
                        case hy42 => (intro w hSw; (try dsimp only at hSw); go_simp; (try with_reducible rfl))
                        simp only [Act.put, List.setIfInBounds_toArray, List.set_cons_zero, List.set_cons_succ]
                        refine anyB_one (i := 7) (n := 3) rfl (by kernel_rfl) (fun K7 hK7 => ?_)
                        go_simp
                        refine hK7.out _ _ (fun _ => ⟨alloc_cell a0, alloc_cell a1, alloc_cell a2, alloc_cell a3⟩) ?_
                        clear hK7
                        clear K7
                        try simp only [Act.put, List.setIfInBounds_toArray, List.set_cons_zero, List.set_cons_succ]
                        refine anyB_one (i := 8) (n := 2) rfl (by kernel_rfl) (fun K8 hK8 => ?_)
                        refine step_append_lies _ (by rfl) _ _ _ (by rfl) G 48 i48 _ 3 32 Yba.underlying43 H48.out.1 H48.out.2.1 H48.out.2.2.1 H48.out.2.2.2 rfl (by omega) (VA t) c.length (prCells c) (by rfl) ((HOA.out.alloc _).drew) ⟨wT.heap.size, 0, none⟩ 1 1 [Value.int .i64 f, Value.int .i64 e1, Value.string p] (by rfl) (by rfl) (World.news_of_block (cs := #[Value.int .i64 f, Value.int .i64 e1, Value.string p]) (t := 48) (fr := (0, 0)) (heap_alloc_new wT _)) (by simp [Value.oneCell']) (by omega) (by unfold maxLen; omega) (by omega) (by simp; omega) (wT.heap.size + 1) (by simp) ?_
                        intro gg cap w1 hown1 hgrow hat hlt
                        have hf1 := (hgrow.frozen_far ⟨G, t, none⟩ (by simp; omega) hn1).trans (alloc_frozen af hlG)
                        have hg1 := (hgrow.cell_far ⟨G, t, none⟩ (by simp; omega) hn1).trans (alloc_cell a3)
                        have hg2 := (hgrow.cell_far ⟨nb, 0, none⟩ (by simp; omega) hn2).trans (alloc_cell a0)
                        have hg3 := (hgrow.cell_far ⟨nb, 1, none⟩ (by simp; omega) hn2).trans (alloc_cell a1)
                        have hg4 := (hgrow.cell_far ⟨nb, 2, none⟩ (by simp; omega) hn2).trans (alloc_cell a2)
                        refine hK8.out _ _ (fun _ => ⟨hg2, hg3, hg4, hg1⟩) ?_
                        clear hK8
                        clear K8
                        try simp only [Act.put, List.setIfInBounds_toArray, List.set_cons_zero, List.set_cons_succ]
                        refine anyB_take (i := 9) (n := 1) (v := ?v43) rfl (by kernel_rfl) (by kernel_rfl) (by kernel_rfl) (by kernel_rfl) (fun _ _ _ h => h) ⟨hg2, hg3, hg4, hg1⟩ (Or.inl ⟨by rfl, ?hy43⟩) ?rest43
                        case hy43 => (intro w hSw; (try dsimp only at hSw); go_simp; (try with_reducible rfl))
                        simp only [Act.put, List.setIfInBounds_toArray, List.set_cons_zero, List.set_cons_succ]
                        refine anyB_one (i := 10) (n := 0) rfl (by kernel_rfl) (fun K10 hK10 => ?_)
                        go_simp
                        refine hK10.out _ _ (fun h => absurd h (by decide)) ?_
                        clear hK10
                        clear K10
                        try simp only [Act.put, List.setIfInBounds_toArray, List.set_cons_zero, List.set_cons_succ]
                        refine anyB_done (by kernel_rfl) ?_
                        have hgw : wT.grownBy w1 (VA t).ownBlock := (grown_alloc wT _ _).trans ((grown_drew _ _).trans hgrow)
                        have hrw : ∀ k, (VA t).ownBlock = some k → G ≤ k := fun k hk => (HOA.out.lt k hk).1
                        have HFX : Hid (Fam (w1.setCell ⟨G, t, none⟩ (.slice (some ⟨gg, 0, none⟩) (c.length + 1) cap)) G G m 48 3 (upd VA t (.slice (some ⟨gg, 0, none⟩) (c.length + 1) cap)) (fun u => (upd PR t (c ++ [(f, e1, p)]) u).length) (fun u => prCells (upd PR t (c ++ [(f, e1, p)]) u))) := fam_pr (HFT.out.put hlt2 hgw (Or.elim hat Or.inl (fun h => Or.inr (by omega))) hown1) rfl rfl
                        have HRX : Hid (Row (w1.setCell ⟨G, t, none⟩ (.slice (some ⟨gg, 0, none⟩) (c.length + 1) cap)) nb 48 [.int .i64 f, .int .i64 e1, .string p]) := (HRT.out.grown hgw (Ne.symm hn2)).grown (World.grownBy.ofSet w1 G t _) (by simp; omega)
                        have HSX : Hid (Row (w1.setCell ⟨G, t, none⟩ (.slice (some ⟨gg, 0, none⟩) (c.length + 1) cap)) wr.heap.size 64 [.int .i64 e1, .pointer none]) := (HST.out.grown hgw hn3).grown (World.grownBy.ofSet w1 G t _) (by simp; omega)
                        have HBX : Hid (Below G wS (w1.setCell ⟨G, t, none⟩ (.slice (some ⟨gg, 0, none⟩) (c.length + 1) cap))) := below_grown (below_grown HBT.out hgw (by omega) hrw) (World.grownBy.ofSet w1 G t _) (by omega) (fun k hk => by cases hk; omega)
                        have HNX : Hid (∀ u, u < m → (upd VA t (.slice (some ⟨gg, 0, none⟩) (c.length + 1) cap) u).ownBlock ≠ some nb) := by
                          intro u hu h
                          by_cases e : u = t
                          · rw [e, upd_same] at h
                            have hgn : gg = nb := by simpa [Value.ownBlock] using h
                            rcases hat with k1 | k1
                            · rw [hgn] at k1; exact hn2 k1.symm
                            · omega
                          · rw [upd_other _ _ e] at h; exact HJ.out.2.2.2.1 u hu h
                        clear hS0 hg2 hg3 hg4 hg1 hf1 hgrow hown1 hat hlt hgw hrw a0 a1 a2 a3 af HRT HST HFT HBT HOA
                        obtain ⟨wX, hwX⟩ : ∃ x, x = (w1.setCell ⟨G, t, none⟩ (.slice (some ⟨gg, 0, none⟩) (c.length + 1) cap)) := ⟨_, rfl⟩
                        rw [← hwX]
                        rw [← hwX] at HFX HRX HSX HBX
                        generalize upd VA t (.slice (some ⟨gg, 0, none⟩) (c.length + 1) cap) = VX at *
                        clear hwX
                        have x1 := HSX.out.cell (o := 1) rfl
                        go_wp2
                        go_roundw
                        case rel => exact ⟨k + 1, f, e1, p, false, VX, c ++ [(f, e1, p)], by go_num, rfl, by omega, by omega, by omega, by simp; omega, HRX.out, HFX.out, HBX.out, HNX.out, by have h := HRN'.out; simpa [hdf] using h⟩
                        case measure => simp [intOf]; omega
                      · have hdf : decide (f < e1) = false := by simp; omega
                        go_wp2
                        go_roundw
                        case rel => exact ⟨k + 1, f, tt, p, false, VA, c, by go_num, rfl, by omega, hf1, hf2, by omega, HJ.out.1.grown (grown_alloc _ _ none) (by simp), HJ.out.2.1.grow0 (grown_alloc _ _ none), below_grown HJ.out.2.2.1 (grown_alloc _ _ none) (by omega) (fun k hk => by cases hk), HJ.out.2.2.2.1, by have h := HRN'.out; simpa [hdf] using h⟩
                        case measure => simp [intOf]; omega
                  · obtain ⟨b, rfl, hb, hrc⟩ := HIN.out.rest (by omega)
                    obtain ⟨_, _, r2, r3⟩ := hrc q hq
                    obtain ⟨_, _, hq5, hq6⟩ := HIN.out.rngR q
                    have HRS' := hide (HRS.out _ rfl)
                    clear HRN HRS hrc
                    have hFr : frOf RL ⟨grOf (some ⟨b, 0, none⟩), q * 4, none⟩ = (RL.getD q (0, 0, 0, .empty)).2.2.1 := by simp [frOf]
                    have hVl : vlOf RL ⟨grOf (some ⟨b, 0, none⟩), q * 4, none⟩ = (RL.getD q (0, 0, 0, .empty)).2.2.2 := by simp [vlOf]
                    rw [hFr, hVl] at HRS'
                    clear hFr hVl
                    generalize (RL.getD q (0, 0, 0, .empty)).2.2.1 = fo at *
                    generalize (RL.getD q (0, 0, 0, .empty)).2.2.2 = vv at *
                    rw [show grOf (some ⟨b, 0, none⟩) = b from rfl] at *
                    have wf : IntKind.i64.wrap (e1 + fo) = e1 + fo := wrapN _ (by omega) (by omega)
                    cases st with
                    | false =>
                      go_wp2_with fail
                      obtain ⟨wX, hwX⟩ : ∃ x, x = wr.alloc (.cells #[.int .i64 e1, .pointer (some ⟨b, q * 4, none⟩)] 64) := ⟨_, rfl⟩
                      rw [← hwX]
                      have HRX : Hid (Row wX nb 48 [.int .i64 f, .int .i64 tt, .string p]) := by rw [hwX]; exact HJ.out.1.grown (grown_alloc _ _ none) (by simp)
                      have HSX : Hid (Row wX wr.heap.size 64 [.int .i64 e1, .pointer (some ⟨b, q * 4, none⟩)]) := by rw [hwX]; exact Row.new wr 64 _
                      have HFX : Hid (Fam wX G G m 48 3 VA (fun u => (upd PR t c u).length) (fun u => prCells (upd PR t c u))) := by rw [hwX]; exact HJ.out.2.1.grow0 (grown_alloc _ _ none)
                      have HBX : Hid (Below G wS wX) := by rw [hwX]; exact below_grown HJ.out.2.2.1 (grown_alloc _ _ none) (by omega) (fun k hk => by cases hk)
                      have HNX := hide HJ.out.2.2.2.1
                      clear hwX
                      have wt : IntKind.i64.wrap ((t : Int) + 1) = (t : Int) + 1 := wrapN _ (by omega) (by omega)
                      have hBw : Below w.heap.size w wX := HWw.out.trans ((HL4.out.below.mono (by omega)).trans (HBX.out.mono (by have := HSt.out.lt; omega)))
                      have HMX := hide (HMAP.out wX hBw (t + 1) (by omega) (by omega))
                      have HBW := hide hBw
                      rw [← hBw.cell (p := ⟨b, q * 4 + 2, none⟩) hb] at r2
                      rw [← hBw.cell (p := ⟨b, q * 4 + 3, none⟩) hb] at r3
                      clear hBw
                      have x0 := HSX.out.cell (o := 0) rfl
                      have x1 := HSX.out.cell (o := 1) rfl
                      have y0 := HRX.out.cell (o := 0) rfl
                      have y1 := HRX.out.cell (o := 1) rfl
                      have y2 := HRX.out.cell (o := 2) rfl
                      have z0 := HRX.out.frozen 0
                      have z1 := HRX.out.frozen 1
                      have z2 := HRX.out.frozen 2
                      generalize hsb : wr.heap.size = sb at *
                      try clear n0 n1 n2 nf0 nf1 nf2
                      refine wp_region_B (S := fun w' => w'.cell? ⟨sb, 0, none⟩ = some (.int .i64 e1) ∧ w'.cell? ⟨sb, 1, none⟩ = some (.pointer (some ⟨b, q * 4, none⟩)) ∧ w'.cell? ⟨b, q * 4 + 2, none⟩ = some (.int .i64 fo) ∧ w'.cell? ⟨b, q * 4 + 3, none⟩ = some (.string vv) ∧ (Instr.lookup 24 mv (.int .i64 ((t : Int) + 1)) false).run Yba.prog w' = .ok (.string (PV (t + 1))) w') (B := fun j => decide (j < 21)) 22 (by kernel_rfl) rfl ?_
                      have hS0 : wX.drew.cell? ⟨sb, 0, none⟩ = some (.int .i64 e1) ∧ wX.drew.cell? ⟨sb, 1, none⟩ = some (.pointer (some ⟨b, q * 4, none⟩)) ∧ wX.drew.cell? ⟨b, q * 4 + 2, none⟩ = some (.int .i64 fo) ∧ wX.drew.cell? ⟨b, q * 4 + 3, none⟩ = some (.string vv) ∧ (Instr.lookup 24 mv (.int .i64 ((t : Int) + 1)) false).run Yba.prog wX.drew = .ok (.string (PV (t + 1))) wX.drew := ⟨x0, x1, r2, r3, by have h := HMAP.out wX.drew (below_grown HBW.out (grown_drew _ none) (Nat.le_refl _) (fun k hk => by cases hk)) (t + 1) (by omega) (by omega); rw [show ((t + 1 : Nat) : Int) = (t : Int) + 1 by omega] at h; exact h⟩
                      refine anyB_take (i := 0) (n := 21) (v := ?v44) rfl (by kernel_rfl) (by kernel_rfl) (by kernel_rfl) (by kernel_rfl) (fun _ _ _ h => h) hS0 (Or.inl ⟨by rfl, ?hy44⟩) ?rest44
                      case hy44 => (intro w hSw; (try dsimp only at hSw); go_simp; (try with_reducible rfl))
                      simp only [Act.put, List.setIfInBounds_toArray, List.set_cons_zero, List.set_cons_succ]
                      refine anyB_take (i := 1) (n := 20) (v := ?v45) rfl (by kernel_rfl) (by kernel_rfl) (by kernel_rfl) (by kernel_rfl) (fun _ _ _ h => h) hS0 (Or.inl ⟨by rfl, ?hy45⟩) ?rest45
                      case hy45 => (intro w hSw; (try dsimp only at hSw); go_simp; (try with_reducible rfl))
                      simp only [Act.put, List.setIfInBounds_toArray, List.set_cons_zero, List.set_cons_succ]
                      refine anyB_take (i := 2) (n := 19) (v := ?v46) rfl (by kernel_rfl) (by kernel_rfl) (by kernel_rfl) (by kernel_rfl) (fun _ _ _ h => h) hS0 (Or.inl ⟨by rfl, ?hy46⟩) ?rest46
                      case hy46 => (intro w hSw; (try dsimp only at hSw); go_simp; (try with_reducible rfl))
                      simp only [Act.put, List.setIfInBounds_toArray, List.set_cons_zero, List.set_cons_succ]
                      refine anyB_take (i := 3) (n := 18) (v := ?v47) rfl (by kernel_rfl) (by kernel_rfl) (by kernel_rfl) (by kernel_rfl) (fun _ _ _ h => h) hS0 (Or.inl ⟨by rfl, ?hy47⟩) ?rest47
                      case hy47 => (intro w hSw; (try dsimp only at hSw); go_simp; (try with_reducible rfl))
                      simp only [Act.put, List.setIfInBounds_toArray, List.set_cons_zero, List.set_cons_succ]
                      refine anyB_take (i := 4) (n := 17) (v := ?v48) rfl (by kernel_rfl) (by kernel_rfl) (by kernel_rfl) (by kernel_rfl) (fun _ _ _ h => h) hS0 (Or.inl ⟨by rfl, ?hy48⟩) ?rest48
                      case hy48 => (intro w hSw; (try dsimp only at hSw); go_simp; (try with_reducible rfl))
                      simp only [Act.put, List.setIfInBounds_toArray, List.set_cons_zero, List.set_cons_succ]
                      refine anyB_take (i := 5) (n := 16) (v := ?v49) rfl (by kernel_rfl) (by kernel_rfl) (by kernel_rfl) (by kernel_rfl) (fun _ _ _ h => h) hS0 (Or.inl ⟨by rfl, ?hy49⟩) ?rest49
                      case hy49 => (intro w hSw; (try dsimp only at hSw); go_simp; (try with_reducible rfl))
                      simp only [Act.put, List.setIfInBounds_toArray, List.set_cons_zero, List.set_cons_succ]
                      refine anyB_take (i := 6) (n := 15) (v := ?v50) rfl (by kernel_rfl) (by kernel_rfl) (by kernel_rfl) (by kernel_rfl) (fun _ _ _ h => h) hS0 (Or.inl ⟨by rfl, ?hy50⟩) ?rest50
                      case hy50 => (intro w hSw; (try dsimp only at hSw); go_simp; (try with_reducible rfl))
                      simp only [Act.put, List.setIfInBounds_toArray, List.set_cons_zero, List.set_cons_succ]
                      refine anyB_take (i := 7) (n := 14) (v := ?v51) rfl (by kernel_rfl) (by kernel_rfl) (by kernel_rfl) (by kernel_rfl) (fun _ _ _ h => h) hS0 (Or.inl ⟨by rfl, ?hy51⟩) ?rest51
                      case hy51 => (intro w hSw; (try dsimp only at hSw); go_simp; (try with_reducible rfl))
                      simp only [Act.put, List.setIfInBounds_toArray, List.set_cons_zero, List.set_cons_succ]
                      refine anyB_take (i := 8) (n := 13) (v := ?v52) rfl (by kernel_rfl) (by kernel_rfl) (by kernel_rfl) (by kernel_rfl) (fun _ _ _ h => h) hS0 (Or.inl ⟨by rfl, ?hy52⟩) ?rest52
                      case hy52 => (intro w hSw; (try dsimp only at hSw); go_simp; (try with_reducible rfl))
                      simp only [Act.put, List.setIfInBounds_toArray, List.set_cons_zero, List.set_cons_succ]
                      refine anyB_take (i := 9) (n := 12) (v := ?v53) rfl (by kernel_rfl) (by kernel_rfl) (by kernel_rfl) (by kernel_rfl) (fun _ _ _ h => h) hS0 (Or.inl ⟨by rfl, ?hy53⟩) ?rest53
                      case hy53 => (intro w hSw; (try dsimp only at hSw); go_simp; (try with_reducible rfl))
                      simp only [Act.put, List.setIfInBounds_toArray, List.set_cons_zero, List.set_cons_succ]
                      refine anyB_take (i := 10) (n := 11) (v := ?v54) rfl (by kernel_rfl) (by kernel_rfl) (by kernel_rfl) (by kernel_rfl) (fun _ _ _ h => h) hS0 (Or.inl ⟨by rfl, ?hy54⟩) ?rest54
                      case hy54 => (intro w hSw; (try dsimp only at hSw); go_simp; (try with_reducible rfl))
                      simp only [Act.put, List.setIfInBounds_toArray, List.set_cons_zero, List.set_cons_succ]
                      refine anyB_take (i := 11) (n := 10) (v := ?v55) rfl (by kernel_rfl) (by kernel_rfl) (by kernel_rfl) (by kernel_rfl) (fun _ _ _ h => h) hS0 (Or.inl ⟨by rfl, ?hy55⟩) ?rest55
                      case hy55 => (intro w hSw; (try dsimp only at hSw); go_simp; (try with_reducible rfl))
                      simp only [Act.put, List.setIfInBounds_toArray, List.set_cons_zero, List.set_cons_succ]
                      refine anyB_take (i := 12) (n := 9) (v := ?v56) rfl (by kernel_rfl) (by kernel_rfl) (by kernel_rfl) (by kernel_rfl) (fun _ _ _ h => h) hS0 (Or.inl ⟨by rfl, ?hy56⟩) ?rest56
                      case hy56 => (intro w hSw; (try dsimp only at hSw); go_simp; (try with_reducible rfl))
                      simp only [Act.put, List.setIfInBounds_toArray, List.set_cons_zero, List.set_cons_succ]
                      refine anyB_take (i := 13) (n := 8) (v := ?v57) rfl (by kernel_rfl) (by kernel_rfl) (by kernel_rfl) (by kernel_rfl) (fun _ _ _ h => h) hS0 (Or.inl ⟨by rfl, ?hy57⟩) ?rest57
                      case hy57 => (intro w hSw; (try dsimp only at hSw); go_simp; (try with_reducible rfl))
                      simp only [Act.put, List.setIfInBounds_toArray, List.set_cons_zero, List.set_cons_succ]
                      refine anyB_take (i := 14) (n := 7) (v := ?v58) rfl (by kernel_rfl) (by kernel_rfl) (by kernel_rfl) (by kernel_rfl) (fun _ _ _ h => h) hS0 (Or.inl ⟨by rfl, ?hy58⟩) ?rest58
                      case hy58 => (intro w hSw; (try dsimp only at hSw); go_simp; (try with_reducible rfl))
                      simp only [Act.put, List.setIfInBounds_toArray, List.set_cons_zero, List.set_cons_succ]
                      refine anyB_take (i := 15) (n := 6) (v := ?v59) rfl (by kernel_rfl) (by kernel_rfl) (by kernel_rfl) (by kernel_rfl) (fun _ _ _ h => h) hS0 (Or.inl ⟨by rfl, ?hy59⟩) ?rest59
                      case hy59 => (intro w hSw; (try dsimp only at hSw); go_simp; (try with_reducible rfl))
                      simp only [Act.put, List.setIfInBounds_toArray, List.set_cons_zero, List.set_cons_succ]
                      refine anyB_take (i := 16) (n := 5) (v := ?v60) rfl (by kernel_rfl) (by kernel_rfl) (by kernel_rfl) (by kernel_rfl) (fun _ _ _ h => h) hS0 (Or.inl ⟨by rfl, ?hy60⟩) ?rest60
                      case hy60 => (intro w hSw; (try dsimp only at hSw); go_simp; (try with_reducible rfl))
                      simp only [Act.put, List.setIfInBounds_toArray, List.set_cons_zero, List.set_cons_succ]
                      refine anyB_take (i := 17) (n := 4) (v := ?v61) rfl (by kernel_rfl) (by kernel_rfl) (by kernel_rfl) (by kernel_rfl) (fun _ _ _ h => h) hS0 (Or.inl ⟨by rfl, ?hy61⟩) ?rest61
                      case hy61 => (intro w hSw; (try dsimp only at hSw); go_simp; (try with_reducible rfl))
                      simp only [Act.put, List.setIfInBounds_toArray, List.set_cons_zero, List.set_cons_succ]
                      have hbX : b < wX.heap.size := World.block_lt_of_cell? wX _ r2
                      refine anyB_one (i := 18) (n := 3) rfl (by kernel_rfl) (fun K18 hK18 => ?_)
                      go_simp
                      refine hK18.out _ _ (fun _ => ⟨alloc_cell x0, alloc_cell x1, alloc_cell r2, alloc_cell r3, by have h := HMAP.out (wX.alloc (.cells #[.string vv, .string (PV (t + 1))] 9)).drew (below_grown (below_grown HBW.out (grown_alloc _ _ none) (Nat.le_refl _) (fun k hk => by cases hk)) (grown_drew _ none) (Nat.le_refl _) (fun k hk => by cases hk)) (t + 1) (by omega) (by omega); rw [show ((t + 1 : Nat) : Int) = (t : Int) + 1 by omega] at h; exact h⟩) ?_
                      clear hK18
                      clear K18
                      try simp only [Act.put, List.setIfInBounds_toArray, List.set_cons_zero, List.set_cons_succ]
                      have hS1 : (wX.alloc (.cells #[.string vv, .string (PV (t + 1))] 9)).drew.cell? ⟨sb, 0, none⟩ = some (.int .i64 e1) ∧ (wX.alloc (.cells #[.string vv, .string (PV (t + 1))] 9)).drew.cell? ⟨sb, 1, none⟩ = some (.pointer (some ⟨b, q * 4, none⟩)) ∧ (wX.alloc (.cells #[.string vv, .string (PV (t + 1))] 9)).drew.cell? ⟨b, q * 4 + 2, none⟩ = some (.int .i64 fo) ∧ (wX.alloc (.cells #[.string vv, .string (PV (t + 1))] 9)).drew.cell? ⟨b, q * 4 + 3, none⟩ = some (.string vv) ∧ (Instr.lookup 24 mv (.int .i64 ((t : Int) + 1)) false).run Yba.prog (wX.alloc (.cells #[.string vv, .string (PV (t + 1))] 9)).drew = .ok (.string (PV (t + 1))) (wX.alloc (.cells #[.string vv, .string (PV (t + 1))] 9)).drew := ⟨alloc_cell x0, alloc_cell x1, alloc_cell r2, alloc_cell r3, by have h := HMAP.out (wX.alloc (.cells #[.string vv, .string (PV (t + 1))] 9)).drew (below_grown (below_grown HBW.out (grown_alloc _ _ none) (Nat.le_refl _) (fun k hk => by cases hk)) (grown_drew _ none) (Nat.le_refl _) (fun k hk => by cases hk)) (t + 1) (by omega) (by omega); rw [show ((t + 1 : Nat) : Int) = (t : Int) + 1 by omega] at h; exact h⟩
                      refine anyB_one (i := 19) (n := 2) rfl (by kernel_rfl) (fun K19 hK19 => ?_)
                      go_simp
                      refine (or_any vv (PV (t + 1)) wX.heap.size (wX.alloc (.cells #[.string vv, .string (PV (t + 1))] 9)).drew ((Row.new wX 9 [.string vv, .string (PV (t + 1))]).cell (o := 0) rfl) ((Row.new wX 9 [.string vv, .string (PV (t + 1))]).cell (o := 1) rfl)).mono ?_
                      rintro e w' ⟨rfl, rfl⟩
                      dsimp only
                      refine hK19.out _ _ (fun _ => hS1) ?_
                      clear hK19
                      clear K19
                      try simp only [Act.put, List.setIfInBounds_toArray, List.set_cons_zero, List.set_cons_succ]
                      refine anyB_take (i := 20) (n := 1) (v := ?v62) rfl (by kernel_rfl) (by kernel_rfl) (by kernel_rfl) (by kernel_rfl) (fun _ _ _ h => h) hS1 (Or.inl ⟨by rfl, ?hy62⟩) ?rest62
                      case hy62 => (intro w hSw; (try dsimp only at hSw); go_simp; (try with_reducible rfl))
                      simp only [Act.put, List.setIfInBounds_toArray, List.set_cons_zero, List.set_cons_succ]
                      have y3 : (wX.alloc (.cells #[.string vv, .string (PV (t + 1))] 9)).cell? ⟨nb, 0, none⟩ = some (.int .i64 f) := alloc_cell y0
                      have z3 : (wX.alloc (.cells #[.string vv, .string (PV (t + 1))] 9)).frozen? ⟨nb, 0, none⟩ = false := alloc_frozen z0 HRX.out.lt
                      have y4 : (wX.alloc (.cells #[.string vv, .string (PV (t + 1))] 9)).cell? ⟨nb, 1, none⟩ = some (.int .i64 tt) := alloc_cell y1
                      have z4 : (wX.alloc (.cells #[.string vv, .string (PV (t + 1))] 9)).frozen? ⟨nb, 1, none⟩ = false := alloc_frozen z1 HRX.out.lt
                      have y5 : (wX.alloc (.cells #[.string vv, .string (PV (t + 1))] 9)).cell? ⟨nb, 2, none⟩ = some (.string p) := alloc_cell y2
                      have z5 : (wX.alloc (.cells #[.string vv, .string (PV (t + 1))] 9)).frozen? ⟨nb, 2, none⟩ = false := alloc_frozen z2 HRX.out.lt
                      refine anyB_one (i := 21) (n := 0) rfl (by kernel_rfl) (fun K21 hK21 => ?_)
                      go_simp
                      refine hK21.out _ _ (fun h => absurd h (by decide)) ?_
                      clear hK21
                      clear K21
                      try simp only [Act.put, List.setIfInBounds_toArray, List.set_cons_zero, List.set_cons_succ]
                      refine anyB_done (by kernel_rfl) ?_
                      obtain ⟨wZ, hwZ⟩ : ∃ x, x = (((((wX.alloc (.cells #[.string vv, .string (PV (t + 1))] 9)).setCell ⟨nb, 0, none⟩ (.int .i64 (e1 + fo))).setCell ⟨nb, 1, none⟩ (.int .i64 0)).setCell ⟨nb, 2, none⟩ (.string (orS vv (PV (t + 1))))).drew) := ⟨_, rfl⟩
                      rw [← hwZ]
                      have HRZ : Hid (Row wZ nb 48 [.int .i64 (e1 + fo), .int .i64 0, .string (orS vv (PV (t + 1)))]) := by rw [hwZ]; exact (((HRX.out.grown (grown_alloc _ _ none) (by simp)).set 0 _).set 1 _).set 2 _
                      have HFZ : Hid (Fam wZ G G m 48 3 VA (fun u => (upd PR t c u).length) (fun u => prCells (upd PR t c u))) := by rw [hwZ]; exact ((((HFX.out.grow0 (grown_alloc _ _ none)).grow (World.grownBy.ofSet _ nb 0 _) (by simp; omega) (fun u hu => Or.inr (HNX.out u hu))).grow (World.grownBy.ofSet _ nb 1 _) (by simp; omega) (fun u hu => Or.inr (HNX.out u hu))).grow (World.grownBy.ofSet _ nb 2 _) (by simp; omega) (fun u hu => Or.inr (HNX.out u hu))).grow0 (grown_drew _ none)
                      have HBZ : Hid (Below G wS wZ) := by rw [hwZ]; exact below_grown (below_grown (below_grown (below_grown (below_grown HBX.out (grown_alloc _ _ none) (by omega) (fun k hk => by cases hk)) (World.grownBy.ofSet _ nb 0 _) (by omega) (fun k hk => by cases hk; omega)) (World.grownBy.ofSet _ nb 1 _) (by omega) (fun k hk => by cases hk; omega)) (World.grownBy.ofSet _ nb 2 _) (by omega) (fun k hk => by cases hk; omega)) (grown_drew _ none) (by omega) (fun k hk => by cases hk)
                      clear hwZ hS0 hS1 x0 x1 y0 y1 y2 y3 y4 y5 z0 z1 z2 z3 z4 z5 r2 r3 hbX
                      go_wp2
                      go_roundw
                      case rel => exact ⟨k + 1, e1 + fo, 0, orS vv (PV (t + 1)), true, VA, c, by go_num, rfl, by omega, by omega, by omega, by omega, HRZ.out, HFZ.out, HBZ.out, HNX.out, by have h := HRS'.out; simpa using h⟩
                      case measure => simp [intOf]; omega
                    | true =>
                      by_cases hfe : f < e1
                      · have hdf : decide (f < e1) = true := by simp; omega
                        go_wp2_with fail
                        obtain ⟨wT, hwT⟩ : ∃ x, x = (wr.setCell ⟨nb, 1, none⟩ (.int .i64 e1)).alloc (.cells #[.int .i64 e1, .pointer (some ⟨b, q * 4, none⟩)] 64) := ⟨_, rfl⟩
                        rw [← hwT]
                        have HRT : Hid (Row wT nb 48 [.int .i64 f, .int .i64 e1, .string p]) := by rw [hwT]; exact (HJ.out.1.set 1 _).grown (grown_alloc _ _ none) (by simp)
                        have HST : Hid (Row wT wr.heap.size 64 [.int .i64 e1, .pointer (some ⟨b, q * 4, none⟩)]) := by rw [hwT]; exact (show (wr.setCell ⟨nb, 1, none⟩ (.int .i64 e1)).heap.size = wr.heap.size by simp [World.setCell]) ▸ Row.new (wr.setCell ⟨nb, 1, none⟩ (.int .i64 e1)) 64 _
                        have HFT : Hid (Fam wT G G m 48 3 VA (fun u => (upd PR t c u).length) (fun u => prCells (upd PR t c u))) := by rw [hwT]; exact (HJ.out.2.1.grow (World.grownBy.ofSet _ nb 1 _) (by simp; omega) (fun u hu => Or.inr (HJ.out.2.2.2.1 u hu))).grow0 (grown_alloc _ _ none)
                        have HBT : Hid (Below G wS wT) := by rw [hwT]; exact below_grown (below_grown HJ.out.2.2.1 (World.grownBy.ofSet _ nb 1 _) (by omega) (fun k hk => by cases hk; omega)) (grown_alloc _ _ none) (by omega) (fun k hk => by cases hk)
                        have hTs : wT.heap.size = wr.heap.size + 1 := by rw [hwT]; simp [World.setCell]
                        clear hwT
                        have a0 := HRT.out.cell (o := 0) rfl
                        have a1 := HRT.out.cell (o := 1) rfl
                        have a2 := HRT.out.cell (o := 2) rfl
                        have a3 := HFT.out.at_ t hlt2
                        have af := HFT.out.free t
                        have HOA : Hid (wT.ownsRow G 48 3 (VA t) c.length (prCells c)) := by have h := HFT.out.own t hlt2; simp only [upd_same] at h; exact h
                        have hlG := HFT.out.lt
                        have hn1 : some G ≠ (VA t).ownBlock := Ne.symm (HFT.out.notgs t hlt2)
                        have hn2 : some nb ≠ (VA t).ownBlock := Ne.symm (HJ.out.2.2.2.1 t hlt2)
                        have hn3 : (VA t).ownBlock ≠ some wr.heap.size := fun h => by have := ((HJ.out.2.1.own t hlt2).lt _ h).2; omega
                        have hnT : nb < wT.heap.size := by omega
                        have HTS := hide hTs
                        clear hTs n0 n1 n2 nf0 nf1 nf2
                        refine wp_region_B (S := fun w' => w'.cell? ⟨nb, 0, none⟩ = some (.int .i64 f) ∧ w'.cell? ⟨nb, 1, none⟩ = some (.int .i64 e1) ∧ w'.cell? ⟨nb, 2, none⟩ = some (.string p) ∧ w'.cell? ⟨G, t, none⟩ = some (VA t)) (B := fun j => decide (j < 10)) 11 (by kernel_rfl) rfl ?_
                        have hS0 : wT.drew.cell? ⟨nb, 0, none⟩ = some (.int .i64 f) ∧ wT.drew.cell? ⟨nb, 1, none⟩ = some (.int .i64 e1) ∧ wT.drew.cell? ⟨nb, 2, none⟩ = some (.string p) ∧ wT.drew.cell? ⟨G, t, none⟩ = some (VA t) := ⟨a0, a1, a2, a3⟩
                        refine anyB_take (i := 0) (n := 10) (v := ?v63) rfl (by kernel_rfl) (by kernel_rfl) (by kernel_rfl) (by kernel_rfl) (fun _ _ _ h => h) hS0 (Or.inl ⟨by rfl, ?hy63⟩) ?rest63
                        case hy63 => (intro w hSw; (try dsimp only at hSw); go_simp; (try with_reducible rfl))
                        simp only [Act.put, List.setIfInBounds_toArray, List.set_cons_zero, List.set_cons_succ]
                        refine anyB_take (i := 1) (n := 9) (v := ?v64) rfl (by kernel_rfl) (by kernel_rfl) (by kernel_rfl) (by kernel_rfl) (fun _ _ _ h => h) hS0 (Or.inl ⟨by rfl, ?hy64⟩) ?rest64
                        case hy64 => (intro w hSw; (try dsimp only at hSw); go_simp; (try with_reducible rfl))
                        simp only [Act.put, List.setIfInBounds_toArray, List.set_cons_zero, List.set_cons_succ]
                        refine anyB_take (i := 2) (n := 8) (v := ?v65) rfl (by kernel_rfl) (by kernel_rfl) (by kernel_rfl) (by kernel_rfl) (fun _ _ _ h => h) hS0 (Or.inl ⟨by rfl, ?hy65⟩) ?rest65
                        case hy65 => (intro w hSw; (try dsimp only at hSw); go_simp; (try with_reducible rfl))
                        simp only [Act.put, List.setIfInBounds_toArray, List.set_cons_zero, List.set_cons_succ]
                        refine anyB_take (i := 3) (n := 7) (v := ?v66) rfl (by kernel_rfl) (by kernel_rfl) (by kernel_rfl) (by kernel_rfl) (fun _ _ _ h => h) hS0 (Or.inl ⟨by rfl, ?hy66⟩) ?rest66
                        case hy66 => (intro w hSw; (try dsimp only at hSw); go_simp; (try with_reducible rfl))
                        simp only [Act.put, List.setIfInBounds_toArray, List.set_cons_zero, List.set_cons_succ]
                        refine anyB_take (i := 4) (n := 6) (v := ?v67) rfl (by kernel_rfl) (by kernel_rfl) (by kernel_rfl) (by kernel_rfl) (fun _ _ _ h => h) hS0 (Or.inl ⟨by rfl, ?hy67⟩) ?rest67
                        case hy67 => (intro w hSw; (try dsimp only at hSw); go_simp; (try with_reducible rfl))
                        simp only [Act.put, List.setIfInBounds_toArray, List.set_cons_zero, List.set_cons_succ]
                        refine anyB_take (i := 5) (n := 5) (v := ?v68) rfl (by kernel_rfl) (by kernel_rfl) (by kernel_rfl) (by kernel_rfl) (fun _ _ _ h => h) hS0 (Or.inl ⟨by rfl, ?hy68⟩) ?rest68
                        case hy68 => (intro w hSw; (try dsimp only at hSw); go_simp; (try with_reducible rfl))
                        simp only [Act.put, List.setIfInBounds_toArray, List.set_cons_zero, List.set_cons_succ]
                        refine anyB_take (i := 6) (n := 4) (v := ?v69) rfl (by kernel_rfl) (by kernel_rfl) (by kernel_rfl) (by kernel_rfl) (fun _ _ _ h => h) hS0 (Or.inl ⟨by rfl, ?hy69⟩) ?rest69
                        case hy69 => (intro w hSw; (try dsimp only at hSw); go_simp; (try with_reducible rfl))
                        simp only [Act.put, List.setIfInBounds_toArray, List.set_cons_zero, List.set_cons_succ]
                        refine anyB_one (i := 7) (n := 3) rfl (by kernel_rfl) (fun K7 hK7 => ?_)
                        go_simp
                        refine hK7.out _ _ (fun _ => ⟨alloc_cell a0, alloc_cell a1, alloc_cell a2, alloc_cell a3⟩) ?_
                        clear hK7
                        clear K7
                        try simp only [Act.put, List.setIfInBounds_toArray, List.set_cons_zero, List.set_cons_succ]
                        refine anyB_one (i := 8) (n := 2) rfl (by kernel_rfl) (fun K8 hK8 => ?_)
                        refine step_append_lies _ (by rfl) _ _ _ (by rfl) G 48 i48 _ 3 32 Yba.underlying43 H48.out.1 H48.out.2.1 H48.out.2.2.1 H48.out.2.2.2 rfl (by omega) (VA t) c.length (prCells c) (by rfl) ((HOA.out.alloc _).drew) ⟨wT.heap.size, 0, none⟩ 1 1 [Value.int .i64 f, Value.int .i64 e1, Value.string p] (by rfl) (by rfl) (World.news_of_block (cs := #[Value.int .i64 f, Value.int .i64 e1, Value.string p]) (t := 48) (fr := (0, 0)) (heap_alloc_new wT _)) (by simp [Value.oneCell']) (by omega) (by unfold maxLen; omega) (by omega) (by simp; omega) (wT.heap.size + 1) (by simp) ?_
                        intro gg cap w1 hown1 hgrow hat hlt
                        have hf1 := (hgrow.frozen_far ⟨G, t, none⟩ (by simp; omega) hn1).trans (alloc_frozen af hlG)
                        have hg1 := (hgrow.cell_far ⟨G, t, none⟩ (by simp; omega) hn1).trans (alloc_cell a3)
                        have hg2 := (hgrow.cell_far ⟨nb, 0, none⟩ (by simp; omega) hn2).trans (alloc_cell a0)
                        have hg3 := (hgrow.cell_far ⟨nb, 1, none⟩ (by simp; omega) hn2).trans (alloc_cell a1)
                        have hg4 := (hgrow.cell_far ⟨nb, 2, none⟩ (by simp; omega) hn2).trans (alloc_cell a2)
                        refine hK8.out _ _ (fun _ => ⟨hg2, hg3, hg4, hg1⟩) ?_
                        clear hK8
                        clear K8
                        try simp only [Act.put, List.setIfInBounds_toArray, List.set_cons_zero, List.set_cons_succ]
                        refine anyB_take (i := 9) (n := 1) (v := ?v70) rfl (by kernel_rfl) (by kernel_rfl) (by kernel_rfl) (by kernel_rfl) (fun _ _ _ h => h) ⟨hg2, hg3, hg4, hg1⟩ (Or.inl ⟨by rfl, ?hy70⟩) ?rest70
                        case hy70 => (intro w hSw; (try dsimp only at hSw); go_simp; (try with_reducible rfl))
                        simp only [Act.put, List.setIfInBounds_toArray, List.set_cons_zero, List.set_cons_succ]
                        refine anyB_one (i := 10) (n := 0) rfl (by kernel_rfl) (fun K10 hK10 => ?_)
                        go_simp
                        refine hK10.out _ _ (fun h => absurd h (by decide)) ?_
                        clear hK10
                        clear K10
                        try simp only [Act.put, List.setIfInBounds_toArray, List.set_cons_zero, List.set_cons_succ]
                        refine anyB_done (by kernel_rfl) ?_
                        have hgw : wT.grownBy w1 (VA t).ownBlock := (grown_alloc wT _ _).trans ((grown_drew _ _).trans hgrow)
                        have hrw : ∀ k, (VA t).ownBlock = some k → G ≤ k := fun k hk => (HOA.out.lt k hk).1
                        have HFX : Hid (Fam (w1.setCell ⟨G, t, none⟩ (.slice (some ⟨gg, 0, none⟩) (c.length + 1) cap)) G G m 48 3 (upd VA t (.slice (some ⟨gg, 0, none⟩) (c.length + 1) cap)) (fun u => (upd PR t (c ++ [(f, e1, p)]) u).length) (fun u => prCells (upd PR t (c ++ [(f, e1, p)]) u))) := fam_pr (HFT.out.put hlt2 hgw (Or.elim hat Or.inl (fun h => Or.inr (by omega))) hown1) rfl rfl
                        have HRX : Hid (Row (w1.setCell ⟨G, t, none⟩ (.slice (some ⟨gg, 0, none⟩) (c.length + 1) cap)) nb 48 [.int .i64 f, .int .i64 e1, .string p]) := (HRT.out.grown hgw (Ne.symm hn2)).grown (World.grownBy.ofSet w1 G t _) (by simp; omega)
                        have HSX : Hid (Row (w1.setCell ⟨G, t, none⟩ (.slice (some ⟨gg, 0, none⟩) (c.length + 1) cap)) wr.heap.size 64 [.int .i64 e1, .pointer (some ⟨b, q * 4, none⟩)]) := (HST.out.grown hgw hn3).grown (World.grownBy.ofSet w1 G t _) (by simp; omega)
                        have HBX : Hid (Below G wS (w1.setCell ⟨G, t, none⟩ (.slice (some ⟨gg, 0, none⟩) (c.length + 1) cap))) := below_grown (below_grown HBT.out hgw (by omega) hrw) (World.grownBy.ofSet w1 G t _) (by omega) (fun k hk => by cases hk; omega)
                        have HNX : Hid (∀ u, u < m → (upd VA t (.slice (some ⟨gg, 0, none⟩) (c.length + 1) cap) u).ownBlock ≠ some nb) := by
                          intro u hu h
                          by_cases e : u = t
                          · rw [e, upd_same] at h
                            have hgn : gg = nb := by simpa [Value.ownBlock] using h
                            rcases hat with k1 | k1
                            · rw [hgn] at k1; exact hn2 k1.symm
                            · omega
                          · rw [upd_other _ _ e] at h; exact HJ.out.2.2.2.1 u hu h
                        clear hS0 hg2 hg3 hg4 hg1 hf1 hgrow hown1 hat hlt hgw hrw a0 a1 a2 a3 af HRT HST HFT HBT HOA
                        obtain ⟨wX, hwX⟩ : ∃ x, x = (w1.setCell ⟨G, t, none⟩ (.slice (some ⟨gg, 0, none⟩) (c.length + 1) cap)) := ⟨_, rfl⟩
                        rw [← hwX]
                        rw [← hwX] at HFX HRX HSX HBX
                        generalize upd VA t (.slice (some ⟨gg, 0, none⟩) (c.length + 1) cap) = VX at *
                        clear hwX
                        have xx1 := HSX.out.cell (o := 1) rfl
                        go_wp2_with fail
                        clear xx1
                        have wt : IntKind.i64.wrap ((t : Int) + 1) = (t : Int) + 1 := wrapN _ (by omega) (by omega)
                        have hBw : Below w.heap.size w wX := HWw.out.trans ((HL4.out.below.mono (by omega)).trans (HBX.out.mono (by have := HSt.out.lt; omega)))
                        have HMX := hide (HMAP.out wX hBw (t + 1) (by omega) (by omega))
                        have HBW := hide hBw
                        rw [← hBw.cell (p := ⟨b, q * 4 + 2, none⟩) hb] at r2
                        rw [← hBw.cell (p := ⟨b, q * 4 + 3, none⟩) hb] at r3
                        clear hBw
                        have x0 := HSX.out.cell (o := 0) rfl
                        have x1 := HSX.out.cell (o := 1) rfl
                        have y0 := HRX.out.cell (o := 0) rfl
                        have y1 := HRX.out.cell (o := 1) rfl
                        have y2 := HRX.out.cell (o := 2) rfl
                        have z0 := HRX.out.frozen 0
                        have z1 := HRX.out.frozen 1
                        have z2 := HRX.out.frozen 2
                        generalize hsb : wr.heap.size = sb at *
                        try clear n0 n1 n2 nf0 nf1 nf2
                        refine wp_region_B (S := fun w' => w'.cell? ⟨sb, 0, none⟩ = some (.int .i64 e1) ∧ w'.cell? ⟨sb, 1, none⟩ = some (.pointer (some ⟨b, q * 4, none⟩)) ∧ w'.cell? ⟨b, q * 4 + 2, none⟩ = some (.int .i64 fo) ∧ w'.cell? ⟨b, q * 4 + 3, none⟩ = some (.string vv) ∧ (Instr.lookup 24 mv (.int .i64 ((t : Int) + 1)) false).run Yba.prog w' = .ok (.string (PV (t + 1))) w') (B := fun j => decide (j < 21)) 22 (by kernel_rfl) rfl ?_
                        have hS0 : wX.drew.cell? ⟨sb, 0, none⟩ = some (.int .i64 e1) ∧ wX.drew.cell? ⟨sb, 1, none⟩ = some (.pointer (some ⟨b, q * 4, none⟩)) ∧ wX.drew.cell? ⟨b, q * 4 + 2, none⟩ = some (.int .i64 fo) ∧ wX.drew.cell? ⟨b, q * 4 + 3, none⟩ = some (.string vv) ∧ (Instr.lookup 24 mv (.int .i64 ((t : Int) + 1)) false).run Yba.prog wX.drew = .ok (.string (PV (t + 1))) wX.drew := ⟨x0, x1, r2, r3, by have h := HMAP.out wX.drew (below_grown HBW.out (grown_drew _ none) (Nat.le_refl _) (fun k hk => by cases hk)) (t + 1) (by omega) (by omega); rw [show ((t + 1 : Nat) : Int) = (t : Int) + 1 by omega] at h; exact h⟩
                        refine anyB_take (i := 0) (n := 21) (v := ?v71) rfl (by kernel_rfl) (by kernel_rfl) (by kernel_rfl) (by kernel_rfl) (fun _ _ _ h => h) hS0 (Or.inl ⟨by rfl, ?hy71⟩) ?rest71
                        case hy71 => (intro w hSw; (try dsimp only at hSw); go_simp; (try with_reducible rfl))
                        simp only [Act.put, List.setIfInBounds_toArray, List.set_cons_zero, List.set_cons_succ]
                        refine anyB_take (i := 1) (n := 20) (v := ?v72) rfl (by kernel_rfl) (by kernel_rfl) (by kernel_rfl) (by kernel_rfl) (fun _ _ _ h => h) hS0 (Or.inl ⟨by rfl, ?hy72⟩) ?rest72
                        case hy72 => (intro w hSw; (try dsimp only at hSw); go_simp; (try with_reducible rfl))
                        simp only [Act.put, List.setIfInBounds_toArray, List.set_cons_zero, List.set_cons_succ]
                        refine anyB_take (i := 2) (n := 19) (v := ?v73) rfl (by kernel_rfl) (by kernel_rfl) (by kernel_rfl) (by kernel_rfl) (fun _ _ _ h => h) hS0 (Or.inl ⟨by rfl, ?hy73⟩) ?rest73
                        case hy73 => (intro w hSw; (try dsimp only at hSw); go_simp; (try with_reducible rfl))
                        simp only [Act.put, List.setIfInBounds_toArray, List.set_cons_zero, List.set_cons_succ]
                        refine anyB_take (i := 3) (n := 18) (v := ?v74) rfl (by kernel_rfl) (by kernel_rfl) (by kernel_rfl) (by kernel_rfl) (fun _ _ _ h => h) hS0 (Or.inl ⟨by rfl, ?hy74⟩) ?rest74
                        case hy74 => (intro w hSw; (try dsimp only at hSw); go_simp; (try with_reducible rfl))
                        simp only [Act.put, List.setIfInBounds_toArray, List.set_cons_zero, List.set_cons_succ]
                        refine anyB_take (i := 4) (n := 17) (v := ?v75) rfl (by kernel_rfl) (by kernel_rfl) (by kernel_rfl) (by kernel_rfl) (fun _ _ _ h => h) hS0 (Or.inl ⟨by rfl, ?hy75⟩) ?rest75
                        case hy75 => (intro w hSw; (try dsimp only at hSw); go_simp; (try with_reducible rfl))
                        simp only [Act.put, List.setIfInBounds_toArray, List.set_cons_zero, List.set_cons_succ]
                        refine anyB_take (i := 5) (n := 16) (v := ?v76) rfl (by kernel_rfl) (by kernel_rfl) (by kernel_rfl) (by kernel_rfl) (fun _ _ _ h => h) hS0 (Or.inl ⟨by rfl, ?hy76⟩) ?rest76
                        case hy76 => (intro w hSw; (try dsimp only at hSw); go_simp; (try with_reducible rfl))
                        simp only [Act.put, List.setIfInBounds_toArray, List.set_cons_zero, List.set_cons_succ]
                        refine anyB_take (i := 6) (n := 15) (v := ?v77) rfl (by kernel_rfl) (by kernel_rfl) (by kernel_rfl) (by kernel_rfl) (fun _ _ _ h => h) hS0 (Or.inl ⟨by rfl, ?hy77⟩) ?rest77
                        case hy77 => (intro w hSw; (try dsimp only at hSw); go_simp; (try with_reducible rfl))
                        simp only [Act.put, List.setIfInBounds_toArray, List.set_cons_zero, List.set_cons_succ]
                        refine anyB_take (i := 7) (n := 14) (v := ?v78) rfl (by kernel_rfl) (by kernel_rfl) (by kernel_rfl) (by kernel_rfl) (fun _ _ _ h => h) hS0 (Or.inl ⟨by rfl, ?hy78⟩) ?rest78
                        case hy78 => (intro w hSw; (try dsimp only at hSw); go_simp; (try with_reducible rfl))
                        simp only [Act.put, List.setIfInBounds_toArray, List.set_cons_zero, List.set_cons_succ]
                        refine anyB_take (i := 8) (n := 13) (v := ?v79) rfl (by kernel_rfl) (by kernel_rfl) (by kernel_rfl) (by kernel_rfl) (fun _ _ _ h => h) hS0 (Or.inl ⟨by rfl, ?hy79⟩) ?rest79
                        case hy79 => (intro w hSw; (try dsimp only at hSw); go_simp; (try with_reducible rfl))
                        simp only [Act.put, List.setIfInBounds_toArray, List.set_cons_zero, List.set_cons_succ]
                        refine anyB_take (i := 9) (n := 12) (v := ?v80) rfl (by kernel_rfl) (by kernel_rfl) (by kernel_rfl) (by kernel_rfl) (fun _ _ _ h => h) hS0 (Or.inl ⟨by rfl, ?hy80⟩) ?rest80
                        case hy80 => (intro w hSw; (try dsimp only at hSw); go_simp; (try with_reducible rfl))
                        simp only [Act.put, List.setIfInBounds_toArray, List.set_cons_zero, List.set_cons_succ]
                        refine anyB_take (i := 10) (n := 11) (v := ?v81) rfl (by kernel_rfl) (by kernel_rfl) (by kernel_rfl) (by kernel_rfl) (fun _ _ _ h => h) hS0 (Or.inl ⟨by rfl, ?hy81⟩) ?rest81
                        case hy81 => (intro w hSw; (try dsimp only at hSw); go_simp; (try with_reducible rfl))
                        simp only [Act.put, List.setIfInBounds_toArray, List.set_cons_zero, List.set_cons_succ]
                        refine anyB_take (i := 11) (n := 10) (v := ?v82) rfl (by kernel_rfl) (by kernel_rfl) (by kernel_rfl) (by kernel_rfl) (fun _ _ _ h => h) hS0 (Or.inl ⟨by rfl, ?hy82⟩) ?rest82
                        case hy82 => (intro w hSw; (try dsimp only at hSw); go_simp; (try with_reducible rfl))
                        simp only [Act.put, List.setIfInBounds_toArray, List.set_cons_zero, List.set_cons_succ]
                        refine anyB_take (i := 12) (n := 9) (v := ?v83) rfl (by kernel_rfl) (by kernel_rfl) (by kernel_rfl) (by kernel_rfl) (fun _ _ _ h => h) hS0 (Or.inl ⟨by rfl, ?hy83⟩) ?rest83
                        case hy83 => (intro w hSw; (try dsimp only at hSw); go_simp; (try with_reducible rfl))
                        simp only [Act.put, List.setIfInBounds_toArray, List.set_cons_zero, List.set_cons_succ]
                        refine anyB_take (i := 13) (n := 8) (v := ?v84) rfl (by kernel_rfl) (by kernel_rfl) (by kernel_rfl) (by kernel_rfl) (fun _ _ _ h => h) hS0 (Or.inl ⟨by rfl, ?hy84⟩) ?rest84
                        case hy84 => (intro w hSw; (try dsimp only at hSw); go_simp; (try with_reducible rfl))
                        simp only [Act.put, List.setIfInBounds_toArray, List.set_cons_zero, List.set_cons_succ]
                        refine anyB_take (i := 14) (n := 7) (v := ?v85) rfl (by kernel_rfl) (by kernel_rfl) (by kernel_rfl) (by kernel_rfl) (fun _ _ _ h => h) hS0 (Or.inl ⟨by rfl, ?hy85⟩) ?rest85
                        case hy85 => (intro w hSw; (try dsimp only at hSw); go_simp; (try with_reducible rfl))
                        simp only [Act.put, List.setIfInBounds_toArray, List.set_cons_zero, List.set_cons_succ]
                        refine anyB_take (i := 15) (n := 6) (v := ?v86) rfl (by kernel_rfl) (by kernel_rfl) (by kernel_rfl) (by kernel_rfl) (fun _ _ _ h => h) hS0 (Or.inl ⟨by rfl, ?hy86⟩) ?rest86
                        case hy86 => (intro w hSw; (try dsimp only at hSw); go_simp; (try with_reducible rfl))
                        simp only [Act.put, List.setIfInBounds_toArray, List.set_cons_zero, List.set_cons_succ]
                        refine anyB_take (i := 16) (n := 5) (v := ?v87) rfl (by kernel_rfl) (by kernel_rfl) (by kernel_rfl) (by kernel_rfl) (fun _ _ _ h => h) hS0 (Or.inl ⟨by rfl, ?hy87⟩) ?rest87
                        case hy87 => (intro w hSw; (try dsimp only at hSw); go_simp; (try with_reducible rfl))
                        simp only [Act.put, List.setIfInBounds_toArray, List.set_cons_zero, List.set_cons_succ]
                        refine anyB_take (i := 17) (n := 4) (v := ?v88) rfl (by kernel_rfl) (by kernel_rfl) (by kernel_rfl) (by kernel_rfl) (fun _ _ _ h => h) hS0 (Or.inl ⟨by rfl, ?hy88⟩) ?rest88
                        case hy88 => (intro w hSw; (try dsimp only at hSw); go_simp; (try with_reducible rfl))
                        simp only [Act.put, List.setIfInBounds_toArray, List.set_cons_zero, List.set_cons_succ]
                        have hbX : b < wX.heap.size := World.block_lt_of_cell? wX _ r2
                        refine anyB_one (i := 18) (n := 3) rfl (by kernel_rfl) (fun K18 hK18 => ?_)
                        go_simp
                        refine hK18.out _ _ (fun _ => ⟨alloc_cell x0, alloc_cell x1, alloc_cell r2, alloc_cell r3, by have h := HMAP.out (wX.alloc (.cells #[.string vv, .string (PV (t + 1))] 9)).drew (below_grown (below_grown HBW.out (grown_alloc _ _ none) (Nat.le_refl _) (fun k hk => by cases hk)) (grown_drew _ none) (Nat.le_refl _) (fun k hk => by cases hk)) (t + 1) (by omega) (by omega); rw [show ((t + 1 : Nat) : Int) = (t : Int) + 1 by omega] at h; exact h⟩) ?_
                        clear hK18
                        clear K18
                        try simp only [Act.put, List.setIfInBounds_toArray, List.set_cons_zero, List.set_cons_succ]
                        have hS1 : (wX.alloc (.cells #[.string vv, .string (PV (t + 1))] 9)).drew.cell? ⟨sb, 0, none⟩ = some (.int .i64 e1) ∧ (wX.alloc (.cells #[.string vv, .string (PV (t + 1))] 9)).drew.cell? ⟨sb, 1, none⟩ = some (.pointer (some ⟨b, q * 4, none⟩)) ∧ (wX.alloc (.cells #[.string vv, .string (PV (t + 1))] 9)).drew.cell? ⟨b, q * 4 + 2, none⟩ = some (.int .i64 fo) ∧ (wX.alloc (.cells #[.string vv, .string (PV (t + 1))] 9)).drew.cell? ⟨b, q * 4 + 3, none⟩ = some (.string vv) ∧ (Instr.lookup 24 mv (.int .i64 ((t : Int) + 1)) false).run Yba.prog (wX.alloc (.cells #[.string vv, .string (PV (t + 1))] 9)).drew = .ok (.string (PV (t + 1))) (wX.alloc (.cells #[.string vv, .string (PV (t + 1))] 9)).drew := ⟨alloc_cell x0, alloc_cell x1, alloc_cell r2, alloc_cell r3, by have h := HMAP.out (wX.alloc (.cells #[.string vv, .string (PV (t + 1))] 9)).drew (below_grown (below_grown HBW.out (grown_alloc _ _ none) (Nat.le_refl _) (fun k hk => by cases hk)) (grown_drew _ none) (Nat.le_refl _) (fun k hk => by cases hk)) (t + 1) (by omega) (by omega); rw [show ((t + 1 : Nat) : Int) = (t : Int) + 1 by omega] at h; exact h⟩
                        refine anyB_one (i := 19) (n := 2) rfl (by kernel_rfl) (fun K19 hK19 => ?_)
                        go_simp
                        refine (or_any vv (PV (t + 1)) wX.heap.size (wX.alloc (.cells #[.string vv, .string (PV (t + 1))] 9)).drew ((Row.new wX 9 [.string vv, .string (PV (t + 1))]).cell (o := 0) rfl) ((Row.new wX 9 [.string vv, .string (PV (t + 1))]).cell (o := 1) rfl)).mono ?_
                        rintro e w' ⟨rfl, rfl⟩
                        dsimp only
                        refine hK19.out _ _ (fun _ => hS1) ?_
                        clear hK19
                        clear K19
                        try simp only [Act.put, List.setIfInBounds_toArray, List.set_cons_zero, List.set_cons_succ]
                        refine anyB_take (i := 20) (n := 1) (v := ?v89) rfl (by kernel_rfl) (by kernel_rfl) (by kernel_rfl) (by kernel_rfl) (fun _ _ _ h => h) hS1 (Or.inl ⟨by rfl, ?hy89⟩) ?rest89
                        case hy89 => (intro w hSw; (try dsimp only at hSw); go_simp; (try with_reducible rfl))
                        simp only [Act.put, List.setIfInBounds_toArray, List.set_cons_zero, List.set_cons_succ]
                        have y3 : (wX.alloc (.cells #[.string vv, .string (PV (t + 1))] 9)).cell? ⟨nb, 0, none⟩ = some (.int .i64 f) := alloc_cell y0
                        have z3 : (wX.alloc (.cells #[.string vv, .string (PV (t + 1))] 9)).frozen? ⟨nb, 0, none⟩ = false := alloc_frozen z0 HRX.out.lt
                        have y4 : (wX.alloc (.cells #[.string vv, .string (PV (t + 1))] 9)).cell? ⟨nb, 1, none⟩ = some (.int .i64 e1) := alloc_cell y1
                        have z4 : (wX.alloc (.cells #[.string vv, .string (PV (t + 1))] 9)).frozen? ⟨nb, 1, none⟩ = false := alloc_frozen z1 HRX.out.lt
                        have y5 : (wX.alloc (.cells #[.string vv, .string (PV (t + 1))] 9)).cell? ⟨nb, 2, none⟩ = some (.string p) := alloc_cell y2
                        have z5 : (wX.alloc (.cells #[.string vv, .string (PV (t + 1))] 9)).frozen? ⟨nb, 2, none⟩ = false := alloc_frozen z2 HRX.out.lt
                        refine anyB_one (i := 21) (n := 0) rfl (by kernel_rfl) (fun K21 hK21 => ?_)
                        go_simp
                        refine hK21.out _ _ (fun h => absurd h (by decide)) ?_
                        clear hK21
                        clear K21
                        try simp only [Act.put, List.setIfInBounds_toArray, List.set_cons_zero, List.set_cons_succ]
                        refine anyB_done (by kernel_rfl) ?_
                        obtain ⟨wZ, hwZ⟩ : ∃ x, x = (((((wX.alloc (.cells #[.string vv, .string (PV (t + 1))] 9)).setCell ⟨nb, 0, none⟩ (.int .i64 (e1 + fo))).setCell ⟨nb, 1, none⟩ (.int .i64 0)).setCell ⟨nb, 2, none⟩ (.string (orS vv (PV (t + 1))))).drew) := ⟨_, rfl⟩
                        rw [← hwZ]
                        have HRZ : Hid (Row wZ nb 48 [.int .i64 (e1 + fo), .int .i64 0, .string (orS vv (PV (t + 1)))]) := by rw [hwZ]; exact (((HRX.out.grown (grown_alloc _ _ none) (by simp)).set 0 _).set 1 _).set 2 _
                        have HFZ : Hid (Fam wZ G G m 48 3 VX (fun u => (upd PR t (c ++ [(f, e1, p)]) u).length) (fun u => prCells (upd PR t (c ++ [(f, e1, p)]) u))) := by rw [hwZ]; exact ((((HFX.out.grow0 (grown_alloc _ _ none)).grow (World.grownBy.ofSet _ nb 0 _) (by simp; omega) (fun u hu => Or.inr (HNX.out u hu))).grow (World.grownBy.ofSet _ nb 1 _) (by simp; omega) (fun u hu => Or.inr (HNX.out u hu))).grow (World.grownBy.ofSet _ nb 2 _) (by simp; omega) (fun u hu => Or.inr (HNX.out u hu))).grow0 (grown_drew _ none)
                        have HBZ : Hid (Below G wS wZ) := by rw [hwZ]; exact below_grown (below_grown (below_grown (below_grown (below_grown HBX.out (grown_alloc _ _ none) (by omega) (fun k hk => by cases hk)) (World.grownBy.ofSet _ nb 0 _) (by omega) (fun k hk => by cases hk; omega)) (World.grownBy.ofSet _ nb 1 _) (by omega) (fun k hk => by cases hk; omega)) (World.grownBy.ofSet _ nb 2 _) (by omega) (fun k hk => by cases hk; omega)) (grown_drew _ none) (by omega) (fun k hk => by cases hk)
                        clear hwZ hS0 hS1 x0 x1 y0 y1 y2 y3 y4 y5 z0 z1 z2 z3 z4 z5 r2 r3 hbX
                        go_wp2
                        go_roundw
                        case rel => exact ⟨k + 1, e1 + fo, 0, orS vv (PV (t + 1)), true, VX, (c ++ [(f, e1, p)]), by go_num, rfl, by omega, by omega, by omega, by simp; omega, HRZ.out, HFZ.out, HBZ.out, HNX.out, by have h := HRS'.out; simpa [hdf] using h⟩
                        case measure => simp [intOf]; omega
                      · have hdf : decide (f < e1) = false := by simp; omega
                        go_wp2_with fail
                        obtain ⟨wX, hwX⟩ : ∃ x, x = wr.alloc (.cells #[.int .i64 e1, .pointer (some ⟨b, q * 4, none⟩)] 64) := ⟨_, rfl⟩
                        rw [← hwX]
                        have HRX : Hid (Row wX nb 48 [.int .i64 f, .int .i64 tt, .string p]) := by rw [hwX]; exact HJ.out.1.grown (grown_alloc _ _ none) (by simp)
                        have HSX : Hid (Row wX wr.heap.size 64 [.int .i64 e1, .pointer (some ⟨b, q * 4, none⟩)]) := by rw [hwX]; exact Row.new wr 64 _
                        have HFX : Hid (Fam wX G G m 48 3 VA (fun u => (upd PR t c u).length) (fun u => prCells (upd PR t c u))) := by rw [hwX]; exact HJ.out.2.1.grow0 (grown_alloc _ _ none)
                        have HBX : Hid (Below G wS wX) := by rw [hwX]; exact below_grown HJ.out.2.2.1 (grown_alloc _ _ none) (by omega) (fun k hk => by cases hk)
                        have HNX := hide HJ.out.2.2.2.1
                        clear hwX
                        have wt : IntKind.i64.wrap ((t : Int) + 1) = (t : Int) + 1 := wrapN _ (by omega) (by omega)
                        have hBw : Below w.heap.size w wX := HWw.out.trans ((HL4.out.below.mono (by omega)).trans (HBX.out.mono (by have := HSt.out.lt; omega)))
                        have HMX := hide (HMAP.out wX hBw (t + 1) (by omega) (by omega))
                        have HBW := hide hBw
                        rw [← hBw.cell (p := ⟨b, q * 4 + 2, none⟩) hb] at r2
                        rw [← hBw.cell (p := ⟨b, q * 4 + 3, none⟩) hb] at r3
                        clear hBw
                        have x0 := HSX.out.cell (o := 0) rfl
                        have x1 := HSX.out.cell (o := 1) rfl
                        have y0 := HRX.out.cell (o := 0) rfl
                        have y1 := HRX.out.cell (o := 1) rfl
                        have y2 := HRX.out.cell (o := 2) rfl
                        have z0 := HRX.out.frozen 0
                        have z1 := HRX.out.frozen 1
                        have z2 := HRX.out.frozen 2
                        generalize hsb : wr.heap.size = sb at *
                        try clear n0 n1 n2 nf0 nf1 nf2
                        refine wp_region_B (S := fun w' => w'.cell? ⟨sb, 0, none⟩ = some (.int .i64 e1) ∧ w'.cell? ⟨sb, 1, none⟩ = some (.pointer (some ⟨b, q * 4, none⟩)) ∧ w'.cell? ⟨b, q * 4 + 2, none⟩ = some (.int .i64 fo) ∧ w'.cell? ⟨b, q * 4 + 3, none⟩ = some (.string vv) ∧ (Instr.lookup 24 mv (.int .i64 ((t : Int) + 1)) false).run Yba.prog w' = .ok (.string (PV (t + 1))) w') (B := fun j => decide (j < 21)) 22 (by kernel_rfl) rfl ?_
                        have hS0 : wX.drew.cell? ⟨sb, 0, none⟩ = some (.int .i64 e1) ∧ wX.drew.cell? ⟨sb, 1, none⟩ = some (.pointer (some ⟨b, q * 4, none⟩)) ∧ wX.drew.cell? ⟨b, q * 4 + 2, none⟩ = some (.int .i64 fo) ∧ wX.drew.cell? ⟨b, q * 4 + 3, none⟩ = some (.string vv) ∧ (Instr.lookup 24 mv (.int .i64 ((t : Int) + 1)) false).run Yba.prog wX.drew = .ok (.string (PV (t + 1))) wX.drew := ⟨x0, x1, r2, r3, by have h := HMAP.out wX.drew (below_grown HBW.out (grown_drew _ none) (Nat.le_refl _) (fun k hk => by cases hk)) (t + 1) (by omega) (by omega); rw [show ((t + 1 : Nat) : Int) = (t : Int) + 1 by omega] at h; exact h⟩
                        refine anyB_take (i := 0) (n := 21) (v := ?v90) rfl (by kernel_rfl) (by kernel_rfl) (by kernel_rfl) (by kernel_rfl) (fun _ _ _ h => h) hS0 (Or.inl ⟨by rfl, ?hy90⟩) ?rest90
                        case hy90 => (intro w hSw; (try dsimp only at hSw); go_simp; (try with_reducible rfl))
                        simp only [Act.put, List.setIfInBounds_toArray, List.set_cons_zero, List.set_cons_succ]
                        refine anyB_take (i := 1) (n := 20) (v := ?v91) rfl (by kernel_rfl) (by kernel_rfl) (by kernel_rfl) (by kernel_rfl) (fun _ _ _ h => h) hS0 (Or.inl ⟨by rfl, ?hy91⟩) ?rest91
                        case hy91 => (intro w hSw; (try dsimp only at hSw); go_simp; (try with_reducible rfl))
                        simp only [Act.put, List.setIfInBounds_toArray, List.set_cons_zero, List.set_cons_succ]
                        refine anyB_take (i := 2) (n := 19) (v := ?v92) rfl (by kernel_rfl) (by kernel_rfl) (by kernel_rfl) (by kernel_rfl) (fun _ _ _ h => h) hS0 (Or.inl ⟨by rfl, ?hy92⟩) ?rest92
                        case hy92 => (intro w hSw; (try dsimp only at hSw); go_simp; (try with_reducible rfl))
                        simp only [Act.put, List.setIfInBounds_toArray, List.set_cons_zero, List.set_cons_succ]
                        refine anyB_take (i := 3) (n := 18) (v := ?v93) rfl (by kernel_rfl) (by kernel_rfl) (by kernel_rfl) (by kernel_rfl) (fun _ _ _ h => h) hS0 (Or.inl ⟨by rfl, ?hy93⟩) ?rest93
                        case hy93 => (intro w hSw; (try dsimp only at hSw); go_simp; (try with_reducible rfl))
                        simp only [Act.put, List.setIfInBounds_toArray, List.set_cons_zero, List.set_cons_succ]
                        refine anyB_take (i := 4) (n := 17) (v := ?v94) rfl (by kernel_rfl) (by kernel_rfl) (by kernel_rfl) (by kernel_rfl) (fun _ _ _ h => h) hS0 (Or.inl ⟨by rfl, ?hy94⟩) ?rest94
                        case hy94 => (intro w hSw; (try dsimp only at hSw); go_simp; (try with_reducible rfl))
                        simp only [Act.put, List.setIfInBounds_toArray, List.set_cons_zero, List.set_cons_succ]
                        refine anyB_take (i := 5) (n := 16) (v := ?v95) rfl (by kernel_rfl) (by kernel_rfl) (by kernel_rfl) (by kernel_rfl) (fun _ _ _ h => h) hS0 (Or.inl ⟨by rfl, ?hy95⟩) ?rest95
                        case hy95 => (intro w hSw; (try dsimp only at hSw); go_simp; (try with_reducible rfl))
                        simp only [Act.put, List.setIfInBounds_toArray, List.set_cons_zero, List.set_cons_succ]
                        refine anyB_take (i := 6) (n := 15) (v := ?v96) rfl (by kernel_rfl) (by kernel_rfl) (by kernel_rfl) (by kernel_rfl) (fun _ _ _ h => h) hS0 (Or.inl ⟨by rfl, ?hy96⟩) ?rest96
                        case hy96 => (intro w hSw; (try dsimp only at hSw); go_simp; (try with_reducible rfl))
                        simp only [Act.put, List.setIfInBounds_toArray, List.set_cons_zero, List.set_cons_succ]
                        refine anyB_take (i := 7) (n := 14) (v := ?v97) rfl (by kernel_rfl) (by kernel_rfl) (by kernel_rfl) (by kernel_rfl) (fun _ _ _ h => h) hS0 (Or.inl ⟨by rfl, ?hy97⟩) ?rest97
                        case hy97 => (intro w hSw; (try dsimp only at hSw); go_simp; (try with_reducible rfl))
                        simp only [Act.put, List.setIfInBounds_toArray, List.set_cons_zero, List.set_cons_succ]
                        refine anyB_take (i := 8) (n := 13) (v := ?v98) rfl (by kernel_rfl) (by kernel_rfl) (by kernel_rfl) (by kernel_rfl) (fun _ _ _ h => h) hS0 (Or.inl ⟨by rfl, ?hy98⟩) ?rest98
                        case hy98 => (intro w hSw; (try dsimp only at hSw); go_simp; (try with_reducible rfl))
                        simp only [Act.put, List.setIfInBounds_toArray, List.set_cons_zero, List.set_cons_succ]
                        refine anyB_take (i := 9) (n := 12) (v := ?v99) rfl (by kernel_rfl) (by kernel_rfl) (by kernel_rfl) (by kernel_rfl) (fun _ _ _ h => h) hS0 (Or.inl ⟨by rfl, ?hy99⟩) ?rest99
                        case hy99 => (intro w hSw; (try dsimp only at hSw); go_simp; (try with_reducible rfl))
                        simp only [Act.put, List.setIfInBounds_toArray, List.set_cons_zero, List.set_cons_succ]
                        refine anyB_take (i := 10) (n := 11) (v := ?v100) rfl (by kernel_rfl) (by kernel_rfl) (by kernel_rfl) (by kernel_rfl) (fun _ _ _ h => h) hS0 (Or.inl ⟨by rfl, ?hy100⟩) ?rest100
                        case hy100 => (intro w hSw; (try dsimp only at hSw); go_simp; (try with_reducible rfl))
                        simp only [Act.put, List.setIfInBounds_toArray, List.set_cons_zero, List.set_cons_succ]
                        refine anyB_take (i := 11) (n := 10) (v := ?v101) rfl (by kernel_rfl) (by kernel_rfl) (by kernel_rfl) (by kernel_rfl) (fun _ _ _ h => h) hS0 (Or.inl ⟨by rfl, ?hy101⟩) ?rest101
                        case hy101 => (intro w hSw; (try dsimp only at hSw); go_simp; (try with_reducible rfl))
                        simp only [Act.put, List.setIfInBounds_toArray, List.set_cons_zero, List.set_cons_succ]
                        refine anyB_take (i := 12) (n := 9) (v := ?v102) rfl (by kernel_rfl) (by kernel_rfl) (by kernel_rfl) (by kernel_rfl) (fun _ _ _ h => h) hS0 (Or.inl ⟨by rfl, ?hy102⟩) ?rest102
                        case hy102 => (intro w hSw; (try dsimp only at hSw); go_simp; (try with_reducible rfl))
                        simp only [Act.put, List.setIfInBounds_toArray, List.set_cons_zero, List.set_cons_succ]
                        refine anyB_take (i := 13) (n := 8) (v := ?v103) rfl (by kernel_rfl) (by kernel_rfl) (by kernel_rfl) (by kernel_rfl) (fun _ _ _ h => h) hS0 (Or.inl ⟨by rfl, ?hy103⟩) ?rest103
                        case hy103 => (intro w hSw; (try dsimp only at hSw); go_simp; (try with_reducible rfl))
                        simp only [Act.put, List.setIfInBounds_toArray, List.set_cons_zero, List.set_cons_succ]
                        refine anyB_take (i := 14) (n := 7) (v := ?v104) rfl (by kernel_rfl) (by kernel_rfl) (by kernel_rfl) (by kernel_rfl) (fun _ _ _ h => h) hS0 (Or.inl ⟨by rfl, ?hy104⟩) ?rest104
                        case hy104 => (intro w hSw; (try dsimp only at hSw); go_simp; (try with_reducible rfl))
                        simp only [Act.put, List.setIfInBounds_toArray, List.set_cons_zero, List.set_cons_succ]
                        refine anyB_take (i := 15) (n := 6) (v := ?v105) rfl (by kernel_rfl) (by kernel_rfl) (by kernel_rfl) (by kernel_rfl) (fun _ _ _ h => h) hS0 (Or.inl ⟨by rfl, ?hy105⟩) ?rest105
                        case hy105 => (intro w hSw; (try dsimp only at hSw); go_simp; (try with_reducible rfl))
                        simp only [Act.put, List.setIfInBounds_toArray, List.set_cons_zero, List.set_cons_succ]
                        refine anyB_take (i := 16) (n := 5) (v := ?v106) rfl (by kernel_rfl) (by kernel_rfl) (by kernel_rfl) (by kernel_rfl) (fun _ _ _ h => h) hS0 (Or.inl ⟨by rfl, ?hy106⟩) ?rest106
                        case hy106 => (intro w hSw; (try dsimp only at hSw); go_simp; (try with_reducible rfl))
                        simp only [Act.put, List.setIfInBounds_toArray, List.set_cons_zero, List.set_cons_succ]
                        refine anyB_take (i := 17) (n := 4) (v := ?v107) rfl (by kernel_rfl) (by kernel_rfl) (by kernel_rfl) (by kernel_rfl) (fun _ _ _ h => h) hS0 (Or.inl ⟨by rfl, ?hy107⟩) ?rest107
                        case hy107 => (intro w hSw; (try dsimp only at hSw); go_simp; (try with_reducible rfl))
                        simp only [Act.put, List.setIfInBounds_toArray, List.set_cons_zero, List.set_cons_succ]
                        have hbX : b < wX.heap.size := World.block_lt_of_cell? wX _ r2
                        refine anyB_one (i := 18) (n := 3) rfl (by kernel_rfl) (fun K18 hK18 => ?_)
                        go_simp
                        refine hK18.out _ _ (fun _ => ⟨alloc_cell x0, alloc_cell x1, alloc_cell r2, alloc_cell r3, by have h := HMAP.out (wX.alloc (.cells #[.string vv, .string (PV (t + 1))] 9)).drew (below_grown (below_grown HBW.out (grown_alloc _ _ none) (Nat.le_refl _) (fun k hk => by cases hk)) (grown_drew _ none) (Nat.le_refl _) (fun k hk => by cases hk)) (t + 1) (by omega) (by omega); rw [show ((t + 1 : Nat) : Int) = (t : Int) + 1 by omega] at h; exact h⟩) ?_
                        clear hK18
                        clear K18
                        try simp only [Act.put, List.setIfInBounds_toArray, List.set_cons_zero, List.set_cons_succ]
                        have hS1 : (wX.alloc (.cells #[.string vv, .string (PV (t + 1))] 9)).drew.cell? ⟨sb, 0, none⟩ = some (.int .i64 e1) ∧ (wX.alloc (.cells #[.string vv, .string (PV (t + 1))] 9)).drew.cell? ⟨sb, 1, none⟩ = some (.pointer (some ⟨b, q * 4, none⟩)) ∧ (wX.alloc (.cells #[.string vv, .string (PV (t + 1))] 9)).drew.cell? ⟨b, q * 4 + 2, none⟩ = some (.int .i64 fo) ∧ (wX.alloc (.cells #[.string vv, .string (PV (t + 1))] 9)).drew.cell? ⟨b, q * 4 + 3, none⟩ = some (.string vv) ∧ (Instr.lookup 24 mv (.int .i64 ((t : Int) + 1)) false).run Yba.prog (wX.alloc (.cells #[.string vv, .string (PV (t + 1))] 9)).drew = .ok (.string (PV (t + 1))) (wX.alloc (.cells #[.string vv, .string (PV (t + 1))] 9)).drew := ⟨alloc_cell x0, alloc_cell x1, alloc_cell r2, alloc_cell r3, by have h := HMAP.out (wX.alloc (.cells #[.string vv, .string (PV (t + 1))] 9)).drew (below_grown (below_grown HBW.out (grown_alloc _ _ none) (Nat.le_refl _) (fun k hk => by cases hk)) (grown_drew _ none) (Nat.le_refl _) (fun k hk => by cases hk)) (t + 1) (by omega) (by omega); rw [show ((t + 1 : Nat) : Int) = (t : Int) + 1 by omega] at h; exact h⟩
                        refine anyB_one (i := 19) (n := 2) rfl (by kernel_rfl) (fun K19 hK19 => ?_)
                        go_simp
                        refine (or_any vv (PV (t + 1)) wX.heap.size (wX.alloc (.cells #[.string vv, .string (PV (t + 1))] 9)).drew ((Row.new wX 9 [.string vv, .string (PV (t + 1))]).cell (o := 0) rfl) ((Row.new wX 9 [.string vv, .string (PV (t + 1))]).cell (o := 1) rfl)).mono ?_
                        rintro e w' ⟨rfl, rfl⟩
                        dsimp only
                        refine hK19.out _ _ (fun _ => hS1) ?_
                        clear hK19
                        clear K19
                        try simp only [Act.put, List.setIfInBounds_toArray, List.set_cons_zero, List.set_cons_succ]
                        refine anyB_take (i := 20) (n := 1) (v := ?v108) rfl (by kernel_rfl) (by kernel_rfl) (by kernel_rfl) (by kernel_rfl) (fun _ _ _ h => h) hS1 (Or.inl ⟨by rfl, ?hy108⟩) ?rest108
                        case hy108 => (intro w hSw; (try dsimp only at hSw); go_simp; (try with_reducible rfl))
                        simp only [Act.put, List.setIfInBounds_toArray, List.set_cons_zero, List.set_cons_succ]
                        have y3 : (wX.alloc (.cells #[.string vv, .string (PV (t + 1))] 9)).cell? ⟨nb, 0, none⟩ = some (.int .i64 f) := alloc_cell y0
                        have z3 : (wX.alloc (.cells #[.string vv, .string (PV (t + 1))] 9)).frozen? ⟨nb, 0, none⟩ = false := alloc_frozen z0 HRX.out.lt
                        have y4 : (wX.alloc (.cells #[.string vv, .string (PV (t + 1))] 9)).cell? ⟨nb, 1, none⟩ = some (.int .i64 tt) := alloc_cell y1
                        have z4 : (wX.alloc (.cells #[.string vv, .string (PV (t + 1))] 9)).frozen? ⟨nb, 1, none⟩ = false := alloc_frozen z1 HRX.out.lt
                        have y5 : (wX.alloc (.cells #[.string vv, .string (PV (t + 1))] 9)).cell? ⟨nb, 2, none⟩ = some (.string p) := alloc_cell y2
                        have z5 : (wX.alloc (.cells #[.string vv, .string (PV (t + 1))] 9)).frozen? ⟨nb, 2, none⟩ = false := alloc_frozen z2 HRX.out.lt
                        refine anyB_one (i := 21) (n := 0) rfl (by kernel_rfl) (fun K21 hK21 => ?_)
                        go_simp
                        refine hK21.out _ _ (fun h => absurd h (by decide)) ?_
                        clear hK21
                        clear K21
                        try simp only [Act.put, List.setIfInBounds_toArray, List.set_cons_zero, List.set_cons_succ]
                        refine anyB_done (by kernel_rfl) ?_
                        obtain ⟨wZ, hwZ⟩ : ∃ x, x = (((((wX.alloc (.cells #[.string vv, .string (PV (t + 1))] 9)).setCell ⟨nb, 0, none⟩ (.int .i64 (e1 + fo))).setCell ⟨nb, 1, none⟩ (.int .i64 0)).setCell ⟨nb, 2, none⟩ (.string (orS vv (PV (t + 1))))).drew) := ⟨_, rfl⟩
                        rw [← hwZ]
                        have HRZ : Hid (Row wZ nb 48 [.int .i64 (e1 + fo), .int .i64 0, .string (orS vv (PV (t + 1)))]) := by rw [hwZ]; exact (((HRX.out.grown (grown_alloc _ _ none) (by simp)).set 0 _).set 1 _).set 2 _
                        have HFZ : Hid (Fam wZ G G m 48 3 VA (fun u => (upd PR t c u).length) (fun u => prCells (upd PR t c u))) := by rw [hwZ]; exact ((((HFX.out.grow0 (grown_alloc _ _ none)).grow (World.grownBy.ofSet _ nb 0 _) (by simp; omega) (fun u hu => Or.inr (HNX.out u hu))).grow (World.grownBy.ofSet _ nb 1 _) (by simp; omega) (fun u hu => Or.inr (HNX.out u hu))).grow (World.grownBy.ofSet _ nb 2 _) (by simp; omega) (fun u hu => Or.inr (HNX.out u hu))).grow0 (grown_drew _ none)
                        have HBZ : Hid (Below G wS wZ) := by rw [hwZ]; exact below_grown (below_grown (below_grown (below_grown (below_grown HBX.out (grown_alloc _ _ none) (by omega) (fun k hk => by cases hk)) (World.grownBy.ofSet _ nb 0 _) (by omega) (fun k hk => by cases hk; omega)) (World.grownBy.ofSet _ nb 1 _) (by omega) (fun k hk => by cases hk; omega)) (World.grownBy.ofSet _ nb 2 _) (by omega) (fun k hk => by cases hk; omega)) (grown_drew _ none) (by omega) (fun k hk => by cases hk)
                        clear hwZ hS0 hS1 x0 x1 y0 y1 y2 y3 y4 y5 z0 z1 z2 z3 z4 z5 r2 r3 hbX
                        go_wp2
                        go_roundw
                        case rel => exact ⟨k + 1, e1 + fo, 0, orS vv (PV (t + 1)), true, VA, c, by go_num, rfl, by omega, by omega, by omega, by omega, HRZ.out, HFZ.out, HBZ.out, HNX.out, by have h := HRS'.out; simpa [hdf] using h⟩
                        case measure => simp [intOf]; omega
                · have hd : decide ((k : Int) < (S.length : Int)) = false := by simp; omega
                  have HRE : Hid (c ++ (if st then [(f, longest1, p)] else []) = run (frOf RL) (vlOf RL) (PV (t + 1)) (from_ L' 0 S.length) 0 (PV (t + 1)) true) := by
                    have h := HJ.out.2.2.2.2
                    rw [show k = S.length by omega, from_end] at h
                    exact h
                  have htm3 : (t : Int) < (m : Int) := by omega
                  cases st with
                  | false =>
                    have HEND : Hid (L3 wB wr w.heap.size G m V VA (stA CL RL aR j) (upd PR t c) (t + 1) ∧ (∀ u, t + 1 ≤ u → upd PR t c u = []) ∧ (∀ u, u < t + 1 → Made (frOf RL) (vlOf RL) PV (stA CL RL aR j) u (upd PR t c u))) := by
                      refine ⟨L3.moved HL4.out HSt.out HJ.out.2.2.1 HJ.out.2.1, fun u hu => ?_, fun u hu => ?_⟩
                      · rw [upd_other _ _ (by omega)]; exact HI.out.2.1 u (by omega)
                      · by_cases e : u = t
                        · rw [e, upd_same]
                          unfold Made
                          rw [HSE.out]
                          exact ⟨L', HSH.out, HSO.out, by have h := HRE.out; simpa using h⟩
                        · rw [upd_other _ _ e]; exact HI.out.2.2 u (by omega)
                    clear HJ HRE
                    go_wp2
                    go_roundw
                    case rel => exact ⟨t + 1, VA, upd PR t c, by go_num, by omega, HEND⟩
                    case measure => simp [intOf]; omega
                  | true =>
                    have n0 := HJ.out.1.cell (o := 0) rfl
                    have n1 := HJ.out.1.cell (o := 1) rfl
                    have n2 := HJ.out.1.cell (o := 2) rfl
                    have nf0 := HJ.out.1.frozen 0
                    have nf1 := HJ.out.1.frozen 1
                    have nf2 := HJ.out.1.frozen 2
                    have hnbl := HJ.out.1.lt
                    go_wp2_with fail
                    obtain ⟨wT, hwT⟩ : ∃ x, x = wr.setCell ⟨nb, 1, none⟩ (.int .i64 4611686018427387904) := ⟨_, rfl⟩
                    rw [← hwT]
                    have HRT : Hid (Row wT nb 48 [.int .i64 f, .int .i64 4611686018427387904, .string p]) := by rw [hwT]; exact HJ.out.1.set 1 _
                    have HFT : Hid (Fam wT G G m 48 3 VA (fun u => (upd PR t c u).length) (fun u => prCells (upd PR t c u))) := by rw [hwT]; exact HJ.out.2.1.grow (World.grownBy.ofSet _ nb 1 _) (by simp; omega) (fun u hu => Or.inr (HJ.out.2.2.2.1 u hu))
                    have HBT : Hid (Below G wS wT) := by rw [hwT]; exact below_grown HJ.out.2.2.1 (World.grownBy.ofSet _ nb 1 _) (by omega) (fun k hk => by cases hk; omega)
                    have hTs : wT.heap.size = wr.heap.size := by rw [hwT]; simp [World.setCell]
                    clear hwT
                    have a0 := HRT.out.cell (o := 0) rfl
                    have a1 := HRT.out.cell (o := 1) rfl
                    have a2 := HRT.out.cell (o := 2) rfl
                    have a3 := HFT.out.at_ t hlt2
                    have af := HFT.out.free t
                    have HOA : Hid (wT.ownsRow G 48 3 (VA t) c.length (prCells c)) := by have h := HFT.out.own t hlt2; simp only [upd_same] at h; exact h
                    have hlG := HFT.out.lt
                    have hn1 : some G ≠ (VA t).ownBlock := Ne.symm (HFT.out.notgs t hlt2)
                    have hn2 : some nb ≠ (VA t).ownBlock := Ne.symm (HJ.out.2.2.2.1 t hlt2)
                    have hnT : nb < wT.heap.size := by omega
                    have HTS := hide hTs
                    clear hTs n0 n1 n2 nf0 nf1 nf2
                    refine wp_region_B (S := fun w' => w'.cell? ⟨nb, 0, none⟩ = some (.int .i64 f) ∧ w'.cell? ⟨nb, 1, none⟩ = some (.int .i64 4611686018427387904) ∧ w'.cell? ⟨nb, 2, none⟩ = some (.string p) ∧ w'.cell? ⟨G, t, none⟩ = some (VA t)) (B := fun j => decide (j < 10)) 11 (by kernel_rfl) rfl ?_
                    have hS0 : wT.drew.cell? ⟨nb, 0, none⟩ = some (.int .i64 f) ∧ wT.drew.cell? ⟨nb, 1, none⟩ = some (.int .i64 4611686018427387904) ∧ wT.drew.cell? ⟨nb, 2, none⟩ = some (.string p) ∧ wT.drew.cell? ⟨G, t, none⟩ = some (VA t) := ⟨a0, a1, a2, a3⟩
                    refine anyB_take (i := 0) (n := 10) (v := ?v109) rfl (by kernel_rfl) (by kernel_rfl) (by kernel_rfl) (by kernel_rfl) (fun _ _ _ h => h) hS0 (Or.inl ⟨by rfl, ?hy109⟩) ?rest109
                    case hy109 => (intro w hSw; (try dsimp only at hSw); go_simp; (try with_reducible rfl))
                    simp only [Act.put, List.setIfInBounds_toArray, List.set_cons_zero, List.set_cons_succ]
                    refine anyB_take (i := 1) (n := 9) (v := ?v110) rfl (by kernel_rfl) (by kernel_rfl) (by kernel_rfl) (by kernel_rfl) (fun _ _ _ h => h) hS0 (Or.inl ⟨by rfl, ?hy110⟩) ?rest110
                    case hy110 => (intro w hSw; (try dsimp only at hSw); go_simp; (try with_reducible rfl))
                    simp only [Act.put, List.setIfInBounds_toArray, List.set_cons_zero, List.set_cons_succ]
                    refine anyB_take (i := 2) (n := 8) (v := ?v111) rfl (by kernel_rfl) (by kernel_rfl) (by kernel_rfl) (by kernel_rfl) (fun _ _ _ h => h) hS0 (Or.inl ⟨by rfl, ?hy111⟩) ?rest111
                    case hy111 => (intro w hSw; (try dsimp only at hSw); go_simp; (try with_reducible rfl))
                    simp only [Act.put, List.setIfInBounds_toArray, List.set_cons_zero, List.set_cons_succ]
                    refine anyB_take (i := 3) (n := 7) (v := ?v112) rfl (by kernel_rfl) (by kernel_rfl) (by kernel_rfl) (by kernel_rfl) (fun _ _ _ h => h) hS0 (Or.inl ⟨by rfl, ?hy112⟩) ?rest112
                    case hy112 => (intro w hSw; (try dsimp only at hSw); go_simp; (try with_reducible rfl))
                    simp only [Act.put, List.setIfInBounds_toArray, List.set_cons_zero, List.set_cons_succ]
                    refine anyB_take (i := 4) (n := 6) (v := ?v113) rfl (by kernel_rfl) (by kernel_rfl) (by kernel_rfl) (by kernel_rfl) (fun _ _ _ h => h) hS0 (Or.inl ⟨by rfl, ?hy113⟩) ?rest113
                    case hy113 => (intro w hSw; (try dsimp only at hSw); go_simp; (try with_reducible rfl))
                    simp only [Act.put, List.setIfInBounds_toArray, List.set_cons_zero, List.set_cons_succ]
                    refine anyB_take (i := 5) (n := 5) (v := ?v114) rfl (by kernel_rfl) (by kernel_rfl) (by kernel_rfl) (by kernel_rfl) (fun _ _ _ h => h) hS0 (Or.inl ⟨by rfl, ?hy114⟩) ?rest114
                    case hy114 => (intro w hSw; (try dsimp only at hSw); go_simp; (try with_reducible rfl))
                    simp only [Act.put, List.setIfInBounds_toArray, List.set_cons_zero, List.set_cons_succ]
                    refine anyB_take (i := 6) (n := 4) (v := ?v115) rfl (by kernel_rfl) (by kernel_rfl) (by kernel_rfl) (by kernel_rfl) (fun _ _ _ h => h) hS0 (Or.inl ⟨by rfl, ?hy115⟩) ?rest115
                    case hy115 => (intro w hSw; (try dsimp only at hSw); go_simp; (try with_reducible rfl))
                    simp only [Act.put, List.setIfInBounds_toArray, List.set_cons_zero, List.set_cons_succ]
                    refine anyB_one (i := 7) (n := 3) rfl (by kernel_rfl) (fun K7 hK7 => ?_)
                    go_simp
                    refine hK7.out _ _ (fun _ => ⟨alloc_cell a0, alloc_cell a1, alloc_cell a2, alloc_cell a3⟩) ?_
                    clear hK7
                    clear K7
                    try simp only [Act.put, List.setIfInBounds_toArray, List.set_cons_zero, List.set_cons_succ]
                    refine anyB_one (i := 8) (n := 2) rfl (by kernel_rfl) (fun K8 hK8 => ?_)
                    refine step_append_lies _ (by rfl) _ _ _ (by rfl) G 48 i48 _ 3 32 Yba.underlying43 H48.out.1 H48.out.2.1 H48.out.2.2.1 H48.out.2.2.2 rfl (by omega) (VA t) c.length (prCells c) (by rfl) ((HOA.out.alloc _).drew) ⟨wT.heap.size, 0, none⟩ 1 1 [Value.int .i64 f, Value.int .i64 4611686018427387904, Value.string p] (by rfl) (by rfl) (World.news_of_block (cs := #[Value.int .i64 f, Value.int .i64 4611686018427387904, Value.string p]) (t := 48) (fr := (0, 0)) (heap_alloc_new wT _)) (by simp [Value.oneCell']) (by omega) (by unfold maxLen; omega) (by omega) (by simp; omega) (wT.heap.size + 1) (by simp) ?_
                    intro gg cap w1 hown1 hgrow hat hlt
                    have hf1 := (hgrow.frozen_far ⟨G, t, none⟩ (by simp; omega) hn1).trans (alloc_frozen af hlG)
                    have hg1 := (hgrow.cell_far ⟨G, t, none⟩ (by simp; omega) hn1).trans (alloc_cell a3)
                    have hg2 := (hgrow.cell_far ⟨nb, 0, none⟩ (by simp; omega) hn2).trans (alloc_cell a0)
                    have hg3 := (hgrow.cell_far ⟨nb, 1, none⟩ (by simp; omega) hn2).trans (alloc_cell a1)
                    have hg4 := (hgrow.cell_far ⟨nb, 2, none⟩ (by simp; omega) hn2).trans (alloc_cell a2)
                    refine hK8.out _ _ (fun _ => ⟨hg2, hg3, hg4, hg1⟩) ?_
                    clear hK8
                    clear K8
                    try simp only [Act.put, List.setIfInBounds_toArray, List.set_cons_zero, List.set_cons_succ]
                    refine anyB_take (i := 9) (n := 1) (v := ?v116) rfl (by kernel_rfl) (by kernel_rfl) (by kernel_rfl) (by kernel_rfl) (fun _ _ _ h => h) ⟨hg2, hg3, hg4, hg1⟩ (Or.inl ⟨by rfl, ?hy116⟩) ?rest116
                    case hy116 => (intro w hSw; (try dsimp only at hSw); go_simp; (try with_reducible rfl))
                    simp only [Act.put, List.setIfInBounds_toArray, List.set_cons_zero, List.set_cons_succ]
                    refine anyB_one (i := 10) (n := 0) rfl (by kernel_rfl) (fun K10 hK10 => ?_)
                    go_simp
                    refine hK10.out _ _ (fun h => absurd h (by decide)) ?_
                    clear hK10
                    clear K10
                    try simp only [Act.put, List.setIfInBounds_toArray, List.set_cons_zero, List.set_cons_succ]
                    refine anyB_done (by kernel_rfl) ?_
                    have hgw : wT.grownBy w1 (VA t).ownBlock := (grown_alloc wT _ _).trans ((grown_drew _ _).trans hgrow)
                    have hrw : ∀ k, (VA t).ownBlock = some k → G ≤ k := fun k hk => (HOA.out.lt k hk).1
                    have HFX : Hid (Fam (w1.setCell ⟨G, t, none⟩ (.slice (some ⟨gg, 0, none⟩) (c.length + 1) cap)) G G m 48 3 (upd VA t (.slice (some ⟨gg, 0, none⟩) (c.length + 1) cap)) (fun u => (upd PR t (c ++ [(f, 4611686018427387904, p)]) u).length) (fun u => prCells (upd PR t (c ++ [(f, 4611686018427387904, p)]) u))) := fam_pr (HFT.out.put hlt2 hgw (Or.elim hat Or.inl (fun h => Or.inr (by omega))) hown1) rfl rfl
                    have HRX : Hid (Row (w1.setCell ⟨G, t, none⟩ (.slice (some ⟨gg, 0, none⟩) (c.length + 1) cap)) nb 48 [.int .i64 f, .int .i64 4611686018427387904, .string p]) := (HRT.out.grown hgw (Ne.symm hn2)).grown (World.grownBy.ofSet w1 G t _) (by simp; omega)
                    have HBX : Hid (Below G wS (w1.setCell ⟨G, t, none⟩ (.slice (some ⟨gg, 0, none⟩) (c.length + 1) cap))) := below_grown (below_grown HBT.out hgw (by omega) hrw) (World.grownBy.ofSet w1 G t _) (by omega) (fun k hk => by cases hk; omega)
                    have HNX : Hid (∀ u, u < m → (upd VA t (.slice (some ⟨gg, 0, none⟩) (c.length + 1) cap) u).ownBlock ≠ some nb) := by
                      intro u hu h
                      by_cases e : u = t
                      · rw [e, upd_same] at h
                        have hgn : gg = nb := by simpa [Value.ownBlock] using h
                        rcases hat with k1 | k1
                        · rw [hgn] at k1; exact hn2 k1.symm
                        · omega
                      · rw [upd_other _ _ e] at h; exact HJ.out.2.2.2.1 u hu h
                    clear hS0 hg2 hg3 hg4 hg1 hf1 hgrow hown1 hat hlt hgw hrw a0 a1 a2 a3 af HRT HFT HBT HOA
                    obtain ⟨wX, hwX⟩ : ∃ x, x = (w1.setCell ⟨G, t, none⟩ (.slice (some ⟨gg, 0, none⟩) (c.length + 1) cap)) := ⟨_, rfl⟩
                    rw [← hwX]
                    rw [← hwX] at HFX HRX HBX
                    generalize upd VA t (.slice (some ⟨gg, 0, none⟩) (c.length + 1) cap) = VX at *
                    clear hwX
                    have HEND : Hid (L3 wB wX w.heap.size G m V VX (stA CL RL aR j) (upd PR t (c ++ [(f, 4611686018427387904, p)])) (t + 1) ∧ (∀ u, t + 1 ≤ u → upd PR t (c ++ [(f, 4611686018427387904, p)]) u = []) ∧ (∀ u, u < t + 1 → Made (frOf RL) (vlOf RL) PV (stA CL RL aR j) u (upd PR t (c ++ [(f, 4611686018427387904, p)]) u))) := by
                      refine ⟨L3.moved HL4.out HSt.out HBX.out HFX.out, fun u hu => ?_, fun u hu => ?_⟩
                      · rw [upd_other _ _ (by omega)]; exact HI.out.2.1 u (by omega)
                      · by_cases e : u = t
                        · rw [e, upd_same]
                          unfold Made
                          rw [HSE.out]
                          exact ⟨L', HSH.out, HSO.out, HRE.out⟩
                        · rw [upd_other _ _ e]; exact HI.out.2.2 u (by omega)
                    clear HJ HRE HFX HRX HBX HNX
                    go_wp2
                    go_roundw
                    case rel => exact ⟨t + 1, VX, _, by go_num, by omega, HEND⟩
                    case measure => simp [intOf]; omega
            · have hd : decide ((t : Int) < (m : Int)) = false := by simp; omega
              go_wp2
              go_ret
              exact ⟨G, VA, PR, rfl, by have := HSt.out.lt; omega, HI.out.1.fam, fun u hu => HI.out.2.2 u (by omega), HWw.out.trans (HI.out.1.below.mono (by omega))⟩
end Go.Proofs.Ybulkoc
