import Derived.Test.YbulkocR
namespace Go.Proofs.Ybulkoc
set_option linter.unusedVariables false
set_option linter.unusedSimpArgs false
open Go.RowKit
attribute [local go_sem] run_store_float run_store_nilFunc

theorem hi39 : (Yba.prog.info? 39).map (·.size) = some 16 := by kernel_rfl
theorem own_one {w : World} {base e size n : Nat} {v : Value} {xs : List Value} (h : w.ownsRow base e size v n xs) : v.oneCell' = true := by
  rcases h.2 with ⟨rfl, _⟩ | ⟨g, cap, cur, rfl, _⟩ <;> rfl
theorem hone {w : World} {m : Int} {base base' e e' size size' n n' : Nat} {v v' : Value} {xs xs' : List Value} (h : w.ownsRow base e size v n xs) (h' : w.ownsRow base' e' size' v' n' xs') : (cfgCells m v v').toArray.all (·.oneCell') = true := by
  simp [cfgCells, own_one h, own_one h']
  simp [Value.oneCell']
theorem grown_setRow (w : World) (g : Nat) (cs old : Array Value) (t : TypeId) (h : w.heap[g]? = some (.cells old t (0, 0))) : w.grownBy (w.setRow g cs) (some g) := by
  refine ⟨rfl, rfl, rfl, ?_, fun k hk hne => ?_⟩
  · simp [World.setRow]
  · simp only [World.setRow]
    rw [Array.getElem?_modify]
    split
    · rename_i e
      subst e
      exact absurd rfl hne
    · rfl

set_option maxRecDepth 100000 in
set_option maxHeartbeats 4000000 in
theorem build_false (mem : Int) (m : Nat) (ac ar : Option Addr) (nc cc nr cr : Nat) (C : List (Int × Int)) (R : List (Int × Int × Int × ByteArray)) (w : World) (hm0 : 0 ≤ mem) (hm1 : mem ≤ 255) (hm : mem % 8 + 1 = (m : Int)) (hc : InC w ac nc C) (hr : InR w ar nr R) (hnc : nc ≤ 1024) (hncc : nc ≤ cc) (hnr : nr ≤ 1024) (hnrc : nr ≤ cr) :
    Calls Yba.prog 5 #[.int .u8 mem, .slice ac nc cc, .slice ar nr cr, .bool false] w fun e w' => ∃ vC vR, e = .returned (.agg (cfgCells m vC vR).toArray) ∧
      w'.ownsRow w.heap.size 56 2 vC nc (crCells (C.map (mkC m))) ∧ w'.ownsRow w.heap.size 51 4 vR nr (rsCells (R.map (mkR m false))) ∧ Below w.heap.size w w' := by
  have hm8 : 1 ≤ m := by omega
  have hm9 : m ≤ 8 := by omega
  have hmne : ¬ (m : Int) = 0 := by omega
  have hmn : ¬ m = 0 := by omega
  obtain ⟨i0, hi0, hz0, hz1, hz2⟩ := info_parts info56
  have HI := hide (And.intro hi0 (And.intro hz0 (And.intro hz1 hz2)))
  clear hi0 hz0 hz1 hz2
  obtain ⟨i1, hi0, hz0, hz1, hz2⟩ := info_parts info51
  have HJ := hide (And.intro hi0 (And.intro hz0 (And.intro hz1 hz2)))
  clear hi0 hz0 hz1 hz2
  have HC := hide hc
  have HR := hide hr
  clear hc hr
  go_enter Yba.func5, Yba.ntmps5
  go_wp2_with fail
  clear hm
  have HF0 : Hid (Cfg w ((w.alloc (.cells #[.int .i64 0, .int .i64 0, .int .u64 0, .int .i64 0, .int .u8 0, .int .i64 0, .int .i64 0, .float .f64 0, .slice none 0 0, .slice none 0 0, .slice none 0 0, .slice none 0 0, .nilFunc, .pointer none, .pointer none, .bool false] 39)).alloc (.cells (cfgCells m (.slice none 0 0) (.slice none 0 0)).toArray 39)) m (.slice none 0 0) (.slice none 0 0)) :=
    ⟨by have := Row.new (w.alloc (.cells #[.int .i64 0, .int .i64 0, .int .u64 0, .int .i64 0, .int .u8 0, .int .i64 0, .int .i64 0, .float .f64 0, .slice none 0 0, .slice none 0 0, .slice none 0 0, .slice none 0 0, .nilFunc, .pointer none, .pointer none, .bool false] 39)) 39 (cfgCells m (.slice none 0 0) (.slice none 0 0)); simpa using this, (Row.new w 39 [.int .i64 0, .int .i64 0, .int .u64 0, .int .i64 0, .int .u8 0, .int .i64 0, .int .i64 0, .float .f64 0, .slice none 0 0, .slice none 0 0, .slice none 0 0, .slice none 0 0, .nilFunc, .pointer none, .pointer none, .bool false]).grown (grown_alloc _ _ none) (by simp), ((Below.refl _ _).alloc (Nat.le_refl _) _).alloc (by simp) _⟩
  go_loopw [24] (fun iv wr => ∃ (i : Nat) (vC : Value), iv = .int .i64 i ∧ i ≤ nc ∧ Hid (Cfg w wr m vC (.slice none 0 0) ∧ wr.ownsRow (w.heap.size + 2) 56 2 vC i (crCells ((C.take i).map (mkC m))))) (fun iv _ => nc - (intOf iv).toNat)
  case atStart => exact ⟨0, .slice none 0 0, by go_num, Nat.zero_le _, HF0.out, by simp [crCells], Or.inl ⟨rfl, rfl⟩⟩
  case round =>
    obtain ⟨i, vC, rfl, hin, HV⟩ := hrel
    clear HF0
    by_cases hlt : i < nc
    · have hd : decide ((i : Int) < (nc : Int)) = true := by simp; omega
      obtain ⟨b, off, rfl, hb, hcells⟩ := HC.out.at0 (by omega)
      obtain ⟨hr1, hr2, hr3, hr4⟩ := HC.out.rng i
      obtain ⟨hc0, hc1⟩ := hcells i hlt
      rw [← HV.out.1.below.cell (p := ⟨b, off + i * 2, none⟩) hb] at hc0
      rw [← HV.out.1.below.cell (p := ⟨b, off + i * 2 + 1, none⟩) hb] at hc1
      generalize hcc : C.getD i (0, 0) = c at *
      obtain ⟨c1, c2⟩ := c
      simp only [] at hr1 hr2 hr3 hr4 hc0 hc1
      have HCC := hide hcc
      clear hcc hcells
      obtain ⟨q, hq⟩ : ∃ q : Nat, c1 % (m : Int) = (q : Int) := ⟨(c1 % (m : Int)).toNat, by have := Int.emod_nonneg c1 (show (m : Int) ≠ 0 by omega); omega⟩
      have hqm : q < m := by have := Int.emod_lt_of_pos c1 (show (0 : Int) < (m : Int) by omega); omega
      have htm : c1.tmod (m : Int) = (q : Int) := by rw [Int.tmod_eq_emod_of_nonneg hr1]; exact hq
      have w1 : IntKind.i64.wrap (q : Int) = q := wrapN _ (by omega) (by omega)
      have w2 : IntKind.i64.wrap ((q : Int) + 1) = (q : Int) + 1 := wrapN _ (by omega) (by omega)
      have w3 : IntKind.i64.wrap c1 = c1 := wrapN _ (by omega) (by omega)
      have w5 : IntKind.i64.wrap c2 = c2 := wrapN _ (by omega) (by omega)
      have hin2 : (i : Int) < (nc : Int) := by omega
      go_wp2_with fail
      obtain ⟨wA, hwA⟩ : ∃ x, x = wr.alloc (.cells #[.int .u8 c1, .int .i16 c2] 54) := ⟨_, rfl⟩
      rw [← hwA]
      have hvs : wA.heap.size = wr.heap.size + 1 := by rw [hwA]; simp
      have hgA : wr.grownBy wA none := by rw [hwA]; exact grown_alloc _ _ _
      have hRA : Row wA wr.heap.size 54 [.int .u8 c1, .int .i16 c2] := by rw [hwA]; exact Row.new wr 54 _
      clear hwA
      have a0 := hRA.cell (o := 0) rfl
      have a1 := hRA.cell (o := 1) rfl
      have HFA : Hid (Cfg w wA m vC (.slice none 0 0)) := HV.out.1.grow hgA (fun k hk => by cases hk)
      have a2 := HFA.out.row.cell (o := 9) rfl
      have af := HFA.out.row.frozen 9
      have HOA : Hid (wA.ownsRow (w.heap.size + 2) 56 2 vC i (crCells ((C.take i).map (mkC m)))) := HV.out.2.kept hgA (Classical.em _)
      have hlt1 := HFA.out.row.lt
      have hn1 : some (w.heap.size + 1) ≠ vC.ownBlock := fun h => by have := HOA.out.lt _ h.symm; omega
      have hn2 : some wr.heap.size ≠ vC.ownBlock := fun h => by have := HV.out.2.lt _ h.symm; omega
      clear hgA hRA
      generalize hvb : wr.heap.size = vb at *
      have hltv : vb < wA.heap.size := by omega
      have HVS := hide hvs
      clear hvs
      have hvl : w.heap.size + 1 < vb := by rw [← hvb]; exact HV.out.1.row.lt
      have hne3 : ¬ vb = w.heap.size + 1 := by omega
      have hne4 : ¬ w.heap.size + 1 = vb := by omega
      have HOB : Hid (∀ k, vC.ownBlock = some k → w.heap.size + 2 ≤ k) := fun k hk => (HOA.out.lt k hk).1
      refine wp_region_B (S := fun w' => w'.cell? ⟨vb, 0, none⟩ = some (.int .u8 c1) ∧ w'.cell? ⟨vb, 1, none⟩ = some (.int .i16 c2) ∧ w'.cell? ⟨w.heap.size + 1, 9, none⟩ = some vC) (B := fun j => decide (j < 15)) 16 (by kernel_rfl) rfl ?_
      have hS0 : wA.drew.cell? ⟨vb, 0, none⟩ = some (.int .u8 c1) ∧ wA.drew.cell? ⟨vb, 1, none⟩ = some (.int .i16 c2) ∧ wA.drew.cell? ⟨w.heap.size + 1, 9, none⟩ = some vC := ⟨a0, a1, a2⟩
      refine anyB_take (i := 0) (n := 15) (v := ?v1) rfl (by kernel_rfl) (by kernel_rfl) (by kernel_rfl) (by kernel_rfl) (fun _ _ _ h => h) hS0 (Or.inl ⟨by rfl, ?hy1⟩) ?rest1
      case hy1 => (intro w hSw; (try dsimp only at hSw); go_simp; (try with_reducible rfl))
      simp only [Act.put, List.setIfInBounds_toArray, List.set_cons_zero, List.set_cons_succ]
      refine anyB_take (i := 1) (n := 14) (v := ?v2) rfl (by kernel_rfl) (by kernel_rfl) (by kernel_rfl) (by kernel_rfl) (fun _ _ _ h => h) hS0 (Or.inl ⟨by rfl, ?hy2⟩) ?rest2
      case hy2 => (intro w hSw; (try dsimp only at hSw); go_simp; (try with_reducible rfl))
      simp only [Act.put, List.setIfInBounds_toArray, List.set_cons_zero, List.set_cons_succ]
      refine anyB_take (i := 2) (n := 13) (v := ?v3) rfl (by kernel_rfl) (by kernel_rfl) (by kernel_rfl) (by kernel_rfl) (fun _ _ _ h => h) hS0 (Or.inl ⟨by rfl, ?hy3⟩) ?rest3
      case hy3 => (intro w hSw; (try dsimp only at hSw); go_simp; (try with_reducible rfl))
      simp only [Act.put, List.setIfInBounds_toArray, List.set_cons_zero, List.set_cons_succ]
      refine anyB_take (i := 3) (n := 12) (v := ?v4) rfl (by kernel_rfl) (by kernel_rfl) (by kernel_rfl) (by kernel_rfl) (fun _ _ _ h => h) hS0 (Or.inl ⟨by rfl, ?hy4⟩) ?rest4
      case hy4 => (intro w hSw; (try dsimp only at hSw); go_simp; (try with_reducible rfl))
      simp only [Act.put, List.setIfInBounds_toArray, List.set_cons_zero, List.set_cons_succ]
      refine anyB_take (i := 4) (n := 11) (v := ?v5) rfl (by kernel_rfl) (by kernel_rfl) (by kernel_rfl) (by kernel_rfl) (fun _ _ _ h => h) hS0 (Or.inl ⟨by rfl, ?hy5⟩) ?rest5
      case hy5 => (intro w hSw; (try dsimp only at hSw); go_simp; (try with_reducible rfl))
      simp only [Act.put, List.setIfInBounds_toArray, List.set_cons_zero, List.set_cons_succ]
      refine anyB_take (i := 5) (n := 10) (v := ?v6) rfl (by kernel_rfl) (by kernel_rfl) (by kernel_rfl) (by kernel_rfl) (fun _ _ _ h => h) hS0 (Or.inl ⟨by rfl, ?hy6⟩) ?rest6
      case hy6 => (intro w hSw; (try dsimp only at hSw); go_simp; (try with_reducible rfl))
      simp only [Act.put, List.setIfInBounds_toArray, List.set_cons_zero, List.set_cons_succ]
      refine anyB_take (i := 6) (n := 9) (v := ?v7) rfl (by kernel_rfl) (by kernel_rfl) (by kernel_rfl) (by kernel_rfl) (fun _ _ _ h => h) hS0 (Or.inl ⟨by rfl, ?hy7⟩) ?rest7
      case hy7 => (intro w hSw; (try dsimp only at hSw); go_simp; (try with_reducible rfl))
      simp only [Act.put, List.setIfInBounds_toArray, List.set_cons_zero, List.set_cons_succ]
      refine anyB_take (i := 7) (n := 8) (v := ?v8) rfl (by kernel_rfl) (by kernel_rfl) (by kernel_rfl) (by kernel_rfl) (fun _ _ _ h => h) hS0 (Or.inl ⟨by rfl, ?hy8⟩) ?rest8
      case hy8 => (intro w hSw; (try dsimp only at hSw); go_simp; (try with_reducible rfl))
      simp only [Act.put, List.setIfInBounds_toArray, List.set_cons_zero, List.set_cons_succ]
      refine anyB_take (i := 8) (n := 7) (v := ?v9) rfl (by kernel_rfl) (by kernel_rfl) (by kernel_rfl) (by kernel_rfl) (fun _ _ _ h => h) hS0 (Or.inl ⟨by rfl, ?hy9⟩) ?rest9
      case hy9 => (intro w hSw; (try dsimp only at hSw); go_simp; (try with_reducible rfl))
      simp only [Act.put, List.setIfInBounds_toArray, List.set_cons_zero, List.set_cons_succ]
      refine anyB_take (i := 9) (n := 6) (v := ?v10) rfl (by kernel_rfl) (by kernel_rfl) (by kernel_rfl) (by kernel_rfl) (fun _ _ _ h => h) hS0 (Or.inl ⟨by rfl, ?hy10⟩) ?rest10
      case hy10 => (intro w hSw; (try dsimp only at hSw); go_simp; (try with_reducible rfl))
      simp only [Act.put, List.setIfInBounds_toArray, List.set_cons_zero, List.set_cons_succ]
      refine anyB_take (i := 10) (n := 5) (v := ?v11) rfl (by kernel_rfl) (by kernel_rfl) (by kernel_rfl) (by kernel_rfl) (fun _ _ _ h => h) hS0 (Or.inl ⟨by rfl, ?hy11⟩) ?rest11
      case hy11 => (intro w hSw; (try dsimp only at hSw); go_simp; (try with_reducible rfl))
      simp only [Act.put, List.setIfInBounds_toArray, List.set_cons_zero, List.set_cons_succ]
      refine anyB_take (i := 11) (n := 4) (v := ?v12) rfl (by kernel_rfl) (by kernel_rfl) (by kernel_rfl) (by kernel_rfl) (fun _ _ _ h => h) hS0 (Or.inl ⟨by rfl, ?hy12⟩) ?rest12
      case hy12 => (intro w hSw; (try dsimp only at hSw); go_simp; (try with_reducible rfl))
      simp only [Act.put, List.setIfInBounds_toArray, List.set_cons_zero, List.set_cons_succ]
      refine anyB_one (i := 12) (n := 3) rfl (by kernel_rfl) (fun K12 hK12 => ?_)
      go_simp
      refine hK12.out _ _ (fun _ => ⟨alloc_cell a0, alloc_cell a1, alloc_cell a2⟩) ?_
      clear hK12
      clear K12
      try simp only [Act.put, List.setIfInBounds_toArray, List.set_cons_zero, List.set_cons_succ]
      refine anyB_one (i := 13) (n := 2) rfl (by kernel_rfl) (fun K13 hK13 => ?_)
      refine step_append_lies _ (by rfl) _ _ _ (by rfl) (w.heap.size + 2) 56 i0 _ 2 16 Yba.underlying32 HI.out.1 HI.out.2.1 HI.out.2.2.1 HI.out.2.2.2 rfl (by omega) vC i (crCells ((C.take i).map (mkC m))) (by rfl) ((HOA.out.alloc _).drew) ⟨wA.heap.size, 0, none⟩ 1 1 [Value.int .i64 ((q : Int) + 1), Value.int .i64 c2] (by rfl) (by rfl) (World.news_of_block (cs := #[Value.int .i64 ((q : Int) + 1), Value.int .i64 c2]) (t := 56) (fr := (0, 0)) (heap_alloc_new wA _)) (by simp [Value.oneCell']) (by omega) (by unfold maxLen; omega) (by omega) (by simp; omega) (wA.heap.size + 1) (by simp) ?_
      intro gg cap w1 hown1 hgrow hat hlt
      have hf1 := (hgrow.frozen_far ⟨w.heap.size + 1, 9, none⟩ (by simp; omega) hn1).trans (alloc_frozen af hlt1)
      have hg1 := (hgrow.cell_far ⟨w.heap.size + 1, 9, none⟩ (by simp; omega) hn1).trans (alloc_cell a2)
      have hg2 := (hgrow.cell_far ⟨vb, 0, none⟩ (by simp; omega) hn2).trans (alloc_cell a0)
      have hg3 := (hgrow.cell_far ⟨vb, 1, none⟩ (by simp; omega) hn2).trans (alloc_cell a1)
      refine hK13.out _ _ (fun _ => ⟨hg2, hg3, hg1⟩) ?_
      clear hK13
      clear K13
      try simp only [Act.put, List.setIfInBounds_toArray, List.set_cons_zero, List.set_cons_succ]
      refine anyB_take (i := 14) (n := 1) (v := ?v13) rfl (by kernel_rfl) (by kernel_rfl) (by kernel_rfl) (by kernel_rfl) (fun _ _ _ h => h) ⟨hg2, hg3, hg1⟩ (Or.inl ⟨by rfl, ?hy13⟩) ?rest13
      case hy13 => (intro w hSw; (try dsimp only at hSw); go_simp; (try with_reducible rfl))
      simp only [Act.put, List.setIfInBounds_toArray, List.set_cons_zero, List.set_cons_succ]
      refine anyB_one (i := 15) (n := 0) rfl (by kernel_rfl) (fun K15 hK15 => ?_)
      go_simp
      refine hK15.out _ _ (fun h => absurd h (by decide)) ?_
      clear hK15
      clear K15
      try simp only [Act.put, List.setIfInBounds_toArray, List.set_cons_zero, List.set_cons_succ]
      refine anyB_done (by kernel_rfl) ?_
      clear hg2 hg3
      have HW : Hid (Cfg w (w1.setCell ⟨w.heap.size + 1, 9, none⟩ (.slice (some ⟨gg, 0, none⟩) (i + 1) cap)) m (.slice (some ⟨gg, 0, none⟩) (i + 1) cap) (.slice none 0 0) ∧ (w1.setCell ⟨w.heap.size + 1, 9, none⟩ (.slice (some ⟨gg, 0, none⟩) (i + 1) cap)).ownsRow (w.heap.size + 2) 56 2 (.slice (some ⟨gg, 0, none⟩) (i + 1) cap) (i + 1) (crCells ((C.take (i + 1)).map (mkC m)))) := by
        refine ⟨(((HFA.out.grow (grown_alloc wA _ none) (fun k hk => by cases hk)).grow (grown_drew _ none) (fun k hk => by cases hk)).grow hgrow HOB.out).setC _, ?_⟩
        rw [take_snoc C i (0, 0) (by rw [HC.out.size]; omega), HCC.out, List.map_append, List.map_singleton, crCells_snoc, show mkC m (c1, c2) = ((q : Int) + 1, c2) by simp [mkC, hq]]
        exact hown1.kept (World.grownBy.ofSet w1 (w.heap.size + 1) 9 _) (Or.inr (fun h => by have := hown1.lt _ h; omega))
      clear hgrow hown1 hat hlt hf1 hg1
      go_wp2
      go_roundw
      case rel => exact ⟨i + 1, .slice (some ⟨gg, 0, none⟩) (i + 1) cap, by go_num, by omega, HW⟩
      case measure => simp [intOf]; omega
    · have hd : decide ((i : Int) < (nc : Int)) = false := by simp; omega
      obtain rfl : i = nc := by omega
      have HCO : Hid (wr.ownsRow (w.heap.size + 2) 56 2 vC i (crCells (C.map (mkC m)))) := by
        have h := HV.out.2
        rw [List.take_of_length_le (by rw [HC.out.size]; exact Nat.le_refl _)] at h
        exact h
      have HCL : Hid (∀ k, vC.ownBlock = some k → k < wr.heap.size) := fun k hk => (HCO.out.lt k hk).2
      have HFV := hide HV.out.1
      have hN2 : w.heap.size + 2 ≤ wr.heap.size := HV.out.1.row.lt
      clear HV
      obtain ⟨N3, hN3⟩ : ∃ N3, N3 = wr.heap.size := ⟨_, rfl⟩
      rw [← hN3] at HCL hN2
      go_wp2_with fail
      go_loopw [46] (fun jv wr => ∃ (j : Nat) (vR : Value), jv = .int .i64 j ∧ j ≤ nr ∧ N3 ≤ wr.heap.size ∧ Hid (Cfg w wr m vC vR ∧ wr.ownsRow (w.heap.size + 2) 56 2 vC i (crCells (C.map (mkC m))) ∧ wr.ownsRow N3 51 4 vR j (rsCells ((R.take j).map (mkR m false))))) (fun jv _ => nr - (intOf jv).toNat)
      case atStart => exact ⟨0, .slice none 0 0, by go_num, Nat.zero_le _, by omega, HFV.out, HCO.out, by simp [rsCells], Or.inl ⟨rfl, rfl⟩⟩
      case round =>
        clear hN3 HFV HCO hd
        obtain ⟨j, vR, rfl, hjn, hNs, HV⟩ := hrel
        by_cases hlt2 : j < nr
        · have hd : decide ((j : Int) < (nr : Int)) = true := by simp; omega
          obtain ⟨b, off, rfl, hb, hcells⟩ := HR.out.at0 (by omega)
          obtain ⟨hr1, hr2, hr3, hr4, hr5, hr6⟩ := HR.out.rng j
          obtain ⟨hc0, hc1, hc2, hc3⟩ := hcells j hlt2
          rw [← HV.out.1.below.cell (p := ⟨b, off + j * 4, none⟩) hb] at hc0
          rw [← HV.out.1.below.cell (p := ⟨b, off + j * 4 + 1, none⟩) hb] at hc1
          rw [← HV.out.1.below.cell (p := ⟨b, off + j * 4 + 2, none⟩) hb] at hc2
          rw [← HV.out.1.below.cell (p := ⟨b, off + j * 4 + 3, none⟩) hb] at hc3
          generalize hcc : R.getD j (0, 0, 0, .empty) = c at *
          obtain ⟨c1, c2, c3, sv⟩ := c
          simp only [] at hr1 hr2 hr3 hr4 hr5 hr6 hc0 hc1 hc2 hc3
          have HCC := hide hcc
          clear hcc hcells
          obtain ⟨q, hq⟩ : ∃ q : Nat, c1 % (m : Int) = (q : Int) := ⟨(c1 % (m : Int)).toNat, by have := Int.emod_nonneg c1 (show (m : Int) ≠ 0 by omega); omega⟩
          have hqm : q < m := by have := Int.emod_lt_of_pos c1 (show (0 : Int) < (m : Int) by omega); omega
          have htm : c1.tmod (m : Int) = (q : Int) := by rw [Int.tmod_eq_emod_of_nonneg hr1]; exact hq
          have w1 : IntKind.i64.wrap (q : Int) = q := wrapN _ (by omega) (by omega)
          have w2 : IntKind.i64.wrap ((q : Int) + 1) = (q : Int) + 1 := wrapN _ (by omega) (by omega)
          have w3 : IntKind.i64.wrap c1 = c1 := wrapN _ (by omega) (by omega)
          have hin2 : (j : Int) < (nr : Int) := by omega
          obtain ⟨f, hf, hf1, hf2⟩ : ∃ f : Int, c3 = f ∧ -32768 ≤ f ∧ f ≤ 65535 := ⟨_, rfl, by omega, by omega⟩
          have HMk : Hid (mkR m false (c1, c2, c3, sv) = ((q : Int) + 1, c2, f, sv)) := by simp [Hid, mkR, hf, hq]
          have w5 : IntKind.i64.wrap c2 = c2 := wrapN _ (by omega) (by omega)
          have w6 : IntKind.i64.wrap f = f := wrapN _ (by omega) (by omega)
          have hf' := hf.symm
          subst hf'
          go_wp2_with fail
          obtain ⟨wA, hwA⟩ : ∃ x, x = wr.alloc (.cells #[.int .u8 c1, .int .i16 c2, .int .i16 f, .string sv] 58) := ⟨_, rfl⟩
          rw [← hwA]
          have hvs : wA.heap.size = wr.heap.size + 1 := by rw [hwA]; simp
          have hgA : wr.grownBy wA none := by rw [hwA]; exact grown_alloc _ _ _
          have hRA : Row wA wr.heap.size 58 [.int .u8 c1, .int .i16 c2, .int .i16 f, .string sv] := by rw [hwA]; exact Row.new wr 58 _
          clear hwA
          have a0 := hRA.cell (o := 0) rfl
          have a1 := hRA.cell (o := 1) rfl
          have a3 := hRA.cell (o := 3) rfl
          have HFA : Hid (Cfg w wA m vC vR) := HV.out.1.grow hgA (fun k hk => by cases hk)
          have a2 := HFA.out.row.cell (o := 11) rfl
          have af := HFA.out.row.frozen 11
          have HCA : Hid (wA.ownsRow (w.heap.size + 2) 56 2 vC i (crCells (C.map (mkC m)))) := HV.out.2.1.kept hgA (Classical.em _)
          have HOA : Hid (wA.ownsRow N3 51 4 vR j (rsCells ((R.take j).map (mkR m false)))) := HV.out.2.2.kept hgA (Classical.em _)
          have hlt1 := HFA.out.row.lt
          have hn1 : some (w.heap.size + 1) ≠ vR.ownBlock := fun h => by have := HOA.out.lt _ h.symm; omega
          have hn2 : some wr.heap.size ≠ vR.ownBlock := fun h => by have := HV.out.2.2.lt _ h.symm; omega
          have hvl : w.heap.size + 1 < wr.heap.size := HV.out.1.row.lt
          clear hgA hRA
          generalize hvb : wr.heap.size = vb at *
          have hltv : vb < wA.heap.size := by omega
          have hNA : N3 ≤ wA.heap.size := by omega
          have HVS := hide hvs
          clear hvs
          have hne3 : ¬ vb = w.heap.size + 1 := by omega
          have hne4 : ¬ w.heap.size + 1 = vb := by omega
          have HOB : Hid (∀ k, vR.ownBlock = some k → N3 ≤ k) := fun k hk => (HOA.out.lt k hk).1
          refine wp_region_B (S := fun w' => w'.cell? ⟨vb, 0, none⟩ = some (.int .u8 c1) ∧ w'.cell? ⟨vb, 1, none⟩ = some (.int .i16 c2) ∧ w'.cell? ⟨vb, 3, none⟩ = some (.string sv) ∧ w'.cell? ⟨w.heap.size + 1, 11, none⟩ = some vR) (B := fun j => decide (j < 18)) 19 (by kernel_rfl) rfl ?_
          have hS0 : wA.drew.cell? ⟨vb, 0, none⟩ = some (.int .u8 c1) ∧ wA.drew.cell? ⟨vb, 1, none⟩ = some (.int .i16 c2) ∧ wA.drew.cell? ⟨vb, 3, none⟩ = some (.string sv) ∧ wA.drew.cell? ⟨w.heap.size + 1, 11, none⟩ = some vR := ⟨a0, a1, a3, a2⟩
          refine anyB_take (i := 0) (n := 18) (v := ?v14) rfl (by kernel_rfl) (by kernel_rfl) (by kernel_rfl) (by kernel_rfl) (fun _ _ _ h => h) hS0 (Or.inl ⟨by rfl, ?hy14⟩) ?rest14
          case hy14 => (intro w hSw; (try dsimp only at hSw); go_simp; (try with_reducible rfl))
          simp only [Act.put, List.setIfInBounds_toArray, List.set_cons_zero, List.set_cons_succ]
          refine anyB_take (i := 1) (n := 17) (v := ?v15) rfl (by kernel_rfl) (by kernel_rfl) (by kernel_rfl) (by kernel_rfl) (fun _ _ _ h => h) hS0 (Or.inl ⟨by rfl, ?hy15⟩) ?rest15
          case hy15 => (intro w hSw; (try dsimp only at hSw); go_simp; (try with_reducible rfl))
          simp only [Act.put, List.setIfInBounds_toArray, List.set_cons_zero, List.set_cons_succ]
          refine anyB_take (i := 2) (n := 16) (v := ?v16) rfl (by kernel_rfl) (by kernel_rfl) (by kernel_rfl) (by kernel_rfl) (fun _ _ _ h => h) hS0 (Or.inl ⟨by rfl, ?hy16⟩) ?rest16
          case hy16 => (intro w hSw; (try dsimp only at hSw); go_simp; (try with_reducible rfl))
          simp only [Act.put, List.setIfInBounds_toArray, List.set_cons_zero, List.set_cons_succ]
          refine anyB_take (i := 3) (n := 15) (v := ?v17) rfl (by kernel_rfl) (by kernel_rfl) (by kernel_rfl) (by kernel_rfl) (fun _ _ _ h => h) hS0 (Or.inl ⟨by rfl, ?hy17⟩) ?rest17
          case hy17 => (intro w hSw; (try dsimp only at hSw); go_simp; (try with_reducible rfl))
          simp only [Act.put, List.setIfInBounds_toArray, List.set_cons_zero, List.set_cons_succ]
          refine anyB_take (i := 4) (n := 14) (v := ?v18) rfl (by kernel_rfl) (by kernel_rfl) (by kernel_rfl) (by kernel_rfl) (fun _ _ _ h => h) hS0 (Or.inl ⟨by rfl, ?hy18⟩) ?rest18
          case hy18 => (intro w hSw; (try dsimp only at hSw); go_simp; (try with_reducible rfl))
          simp only [Act.put, List.setIfInBounds_toArray, List.set_cons_zero, List.set_cons_succ]
          refine anyB_take (i := 5) (n := 13) (v := ?v19) rfl (by kernel_rfl) (by kernel_rfl) (by kernel_rfl) (by kernel_rfl) (fun _ _ _ h => h) hS0 (Or.inl ⟨by rfl, ?hy19⟩) ?rest19
          case hy19 => (intro w hSw; (try dsimp only at hSw); go_simp; (try with_reducible rfl))
          simp only [Act.put, List.setIfInBounds_toArray, List.set_cons_zero, List.set_cons_succ]
          refine anyB_take (i := 6) (n := 12) (v := ?v20) rfl (by kernel_rfl) (by kernel_rfl) (by kernel_rfl) (by kernel_rfl) (fun _ _ _ h => h) hS0 (Or.inl ⟨by rfl, ?hy20⟩) ?rest20
          case hy20 => (intro w hSw; (try dsimp only at hSw); go_simp; (try with_reducible rfl))
          simp only [Act.put, List.setIfInBounds_toArray, List.set_cons_zero, List.set_cons_succ]
          refine anyB_take (i := 7) (n := 11) (v := ?v21) rfl (by kernel_rfl) (by kernel_rfl) (by kernel_rfl) (by kernel_rfl) (fun _ _ _ h => h) hS0 (Or.inl ⟨by rfl, ?hy21⟩) ?rest21
          case hy21 => (intro w hSw; (try dsimp only at hSw); go_simp; (try with_reducible rfl))
          simp only [Act.put, List.setIfInBounds_toArray, List.set_cons_zero, List.set_cons_succ]
          refine anyB_take (i := 8) (n := 10) (v := ?v22) rfl (by kernel_rfl) (by kernel_rfl) (by kernel_rfl) (by kernel_rfl) (fun _ _ _ h => h) hS0 (Or.inl ⟨by rfl, ?hy22⟩) ?rest22
          case hy22 => (intro w hSw; (try dsimp only at hSw); go_simp; (try with_reducible rfl))
          simp only [Act.put, List.setIfInBounds_toArray, List.set_cons_zero, List.set_cons_succ]
          refine anyB_take (i := 9) (n := 9) (v := ?v23) rfl (by kernel_rfl) (by kernel_rfl) (by kernel_rfl) (by kernel_rfl) (fun _ _ _ h => h) hS0 (Or.inl ⟨by rfl, ?hy23⟩) ?rest23
          case hy23 => (intro w hSw; (try dsimp only at hSw); go_simp; (try with_reducible rfl))
          simp only [Act.put, List.setIfInBounds_toArray, List.set_cons_zero, List.set_cons_succ]
          refine anyB_take (i := 10) (n := 8) (v := ?v24) rfl (by kernel_rfl) (by kernel_rfl) (by kernel_rfl) (by kernel_rfl) (fun _ _ _ h => h) hS0 (Or.inl ⟨by rfl, ?hy24⟩) ?rest24
          case hy24 => (intro w hSw; (try dsimp only at hSw); go_simp; (try with_reducible rfl))
          simp only [Act.put, List.setIfInBounds_toArray, List.set_cons_zero, List.set_cons_succ]
          refine anyB_take (i := 11) (n := 7) (v := ?v25) rfl (by kernel_rfl) (by kernel_rfl) (by kernel_rfl) (by kernel_rfl) (fun _ _ _ h => h) hS0 (Or.inl ⟨by rfl, ?hy25⟩) ?rest25
          case hy25 => (intro w hSw; (try dsimp only at hSw); go_simp; (try with_reducible rfl))
          simp only [Act.put, List.setIfInBounds_toArray, List.set_cons_zero, List.set_cons_succ]
          refine anyB_take (i := 12) (n := 6) (v := ?v26) rfl (by kernel_rfl) (by kernel_rfl) (by kernel_rfl) (by kernel_rfl) (fun _ _ _ h => h) hS0 (Or.inl ⟨by rfl, ?hy26⟩) ?rest26
          case hy26 => (intro w hSw; (try dsimp only at hSw); go_simp; (try with_reducible rfl))
          simp only [Act.put, List.setIfInBounds_toArray, List.set_cons_zero, List.set_cons_succ]
          refine anyB_take (i := 13) (n := 5) (v := ?v27) rfl (by kernel_rfl) (by kernel_rfl) (by kernel_rfl) (by kernel_rfl) (fun _ _ _ h => h) hS0 (Or.inl ⟨by rfl, ?hy27⟩) ?rest27
          case hy27 => (intro w hSw; (try dsimp only at hSw); go_simp; (try with_reducible rfl))
          simp only [Act.put, List.setIfInBounds_toArray, List.set_cons_zero, List.set_cons_succ]
          refine anyB_take (i := 14) (n := 4) (v := ?v28) rfl (by kernel_rfl) (by kernel_rfl) (by kernel_rfl) (by kernel_rfl) (fun _ _ _ h => h) hS0 (Or.inl ⟨by rfl, ?hy28⟩) ?rest28
          case hy28 => (intro w hSw; (try dsimp only at hSw); go_simp; (try with_reducible rfl))
          simp only [Act.put, List.setIfInBounds_toArray, List.set_cons_zero, List.set_cons_succ]
          refine anyB_one (i := 15) (n := 3) rfl (by kernel_rfl) (fun K15 hK15 => ?_)
          go_simp
          refine hK15.out _ _ (fun _ => ⟨alloc_cell a0, alloc_cell a1, alloc_cell a3, alloc_cell a2⟩) ?_
          clear hK15
          clear K15
          try simp only [Act.put, List.setIfInBounds_toArray, List.set_cons_zero, List.set_cons_succ]
          refine anyB_one (i := 16) (n := 2) rfl (by kernel_rfl) (fun K16 hK16 => ?_)
          refine step_append_lies _ (by rfl) _ _ _ (by rfl) N3 51 i1 _ 4 40 Yba.underlying34 HJ.out.1 HJ.out.2.1 HJ.out.2.2.1 HJ.out.2.2.2 rfl (by omega) vR j (rsCells ((R.take j).map (mkR m false))) (by rfl) ((HOA.out.alloc _).drew) ⟨wA.heap.size, 0, none⟩ 1 1 [Value.int .i64 ((q : Int) + 1), Value.int .i64 c2, Value.int .i64 f, Value.string sv] (by rfl) (by rfl) (World.news_of_block (cs := #[Value.int .i64 ((q : Int) + 1), Value.int .i64 c2, Value.int .i64 f, Value.string sv]) (t := 51) (fr := (0, 0)) (heap_alloc_new wA _)) (by simp [Value.oneCell']) (by omega) (by unfold maxLen; omega) (by omega) (by simp; omega) (wA.heap.size + 1) (by simp) ?_
          intro gg cap w1 hown1 hgrow hat hlt
          have hf1 := (hgrow.frozen_far ⟨w.heap.size + 1, 11, none⟩ (by simp; omega) hn1).trans (alloc_frozen af hlt1)
          have hg1 := (hgrow.cell_far ⟨w.heap.size + 1, 11, none⟩ (by simp; omega) hn1).trans (alloc_cell a2)
          have hg2 := (hgrow.cell_far ⟨vb, 0, none⟩ (by simp; omega) hn2).trans (alloc_cell a0)
          have hg3 := (hgrow.cell_far ⟨vb, 1, none⟩ (by simp; omega) hn2).trans (alloc_cell a1)
          have hg4 := (hgrow.cell_far ⟨vb, 3, none⟩ (by simp; omega) hn2).trans (alloc_cell a3)
          refine hK16.out _ _ (fun _ => ⟨hg2, hg3, hg4, hg1⟩) ?_
          clear hK16
          clear K16
          try simp only [Act.put, List.setIfInBounds_toArray, List.set_cons_zero, List.set_cons_succ]
          refine anyB_take (i := 17) (n := 1) (v := ?v29) rfl (by kernel_rfl) (by kernel_rfl) (by kernel_rfl) (by kernel_rfl) (fun _ _ _ h => h) ⟨hg2, hg3, hg4, hg1⟩ (Or.inl ⟨by rfl, ?hy29⟩) ?rest29
          case hy29 => (intro w hSw; (try dsimp only at hSw); go_simp; (try with_reducible rfl))
          simp only [Act.put, List.setIfInBounds_toArray, List.set_cons_zero, List.set_cons_succ]
          refine anyB_one (i := 18) (n := 0) rfl (by kernel_rfl) (fun K18 hK18 => ?_)
          go_simp
          refine hK18.out _ _ (fun h => absurd h (by decide)) ?_
          clear hK18
          clear K18
          try simp only [Act.put, List.setIfInBounds_toArray, List.set_cons_zero, List.set_cons_succ]
          refine anyB_done (by kernel_rfl) ?_
          clear hg2 hg3 hg4
          have hsg : wA.heap.size ≤ w1.heap.size := by have := hgrow.size; simp at this; omega
          have HW : Hid (Cfg w (w1.setCell ⟨w.heap.size + 1, 11, none⟩ (.slice (some ⟨gg, 0, none⟩) (j + 1) cap)) m vC (.slice (some ⟨gg, 0, none⟩) (j + 1) cap) ∧ (w1.setCell ⟨w.heap.size + 1, 11, none⟩ (.slice (some ⟨gg, 0, none⟩) (j + 1) cap)).ownsRow (w.heap.size + 2) 56 2 vC i (crCells (C.map (mkC m))) ∧ (w1.setCell ⟨w.heap.size + 1, 11, none⟩ (.slice (some ⟨gg, 0, none⟩) (j + 1) cap)).ownsRow N3 51 4 (.slice (some ⟨gg, 0, none⟩) (j + 1) cap) (j + 1) (rsCells ((R.take (j + 1)).map (mkR m false)))) := by
            refine ⟨(((HFA.out.grow (grown_alloc wA _ none) (fun k hk => by cases hk)).grow (grown_drew _ none) (fun k hk => by cases hk)).grow hgrow (fun k hk => by have := HOB.out k hk; omega)).setR _, ?_, ?_⟩
            · refine (((HCA.out.alloc _).drew).kept hgrow ?_).kept (World.grownBy.ofSet w1 (w.heap.size + 1) 11 _) (Or.inr (fun h => by have := HCA.out.lt _ h; omega))
              by_cases e : vC.ownBlock = none
              · exact Or.inl e
              · refine Or.inr (fun h => ?_)
                obtain ⟨k, hk⟩ := Option.ne_none_iff_exists'.1 e
                have h1 := HCL.out k hk
                have h2 := HOB.out k (by rw [← h]; exact hk)
                omega
            · rw [take_snoc R j (0, 0, 0, .empty) (by rw [HR.out.size]; omega), HCC.out, List.map_append, List.map_singleton, HMk.out, rsCells_snoc]
              exact hown1.kept (World.grownBy.ofSet w1 (w.heap.size + 1) 11 _) (Or.inr (fun h => by have := hown1.lt _ h; omega))
          have hsz2 : N3 ≤ (w1.setCell ⟨w.heap.size + 1, 11, none⟩ (.slice (some ⟨gg, 0, none⟩) (j + 1) cap)).heap.size := by simp [World.setCell]; omega
          clear hgrow hown1 hat hlt hf1 hg1
          go_wp2
          go_roundw
          case rel => exact ⟨j + 1, .slice (some ⟨gg, 0, none⟩) (j + 1) cap, by go_num, by omega, hsz2, HW⟩
          case measure => simp [intOf]; omega
        · have hd : decide ((j : Int) < (nr : Int)) = false := by simp; omega
          obtain rfl : j = nr := by omega
          have HRo := hide HV.out.1.row
          have HZ := hide HV.out.1.zero
          have HRO : Hid (wr.ownsRow (w.heap.size + 2) 56 2 vC i (crCells (C.map (mkC m))) ∧ wr.ownsRow N3 51 4 vR j (rsCells (R.map (mkR m false))) ∧ Below w.heap.size w wr) := by
            obtain ⟨h1, h2, h3⟩ := HV.out
            rw [List.take_of_length_le (by rw [HR.out.size]; exact Nat.le_refl _)] at h3
            exact ⟨h2, h3, h1.below⟩
          clear HV
          go_wp2_with (first | (refine wpList_load_row rfl 39 (.tmp 10) rfl (w.heap.size + 1) rfl 39 (cfgCells m vC vR).toArray (0, 0) _ HRo.out Yba.underlying39 rfl hi39 ?_) | (refine wpList_store_row rfl 39 (.tmp 8) (.tmp 77) rfl w.heap.size (cfgCells m vC vR).toArray rfl rfl 39 _ HZ.out hi39 rfl (hone HRO.out.1 HRO.out.2.1) ?_))
          have hg := grown_setRow wr w.heap.size (cfgCells m vC vR).toArray _ 39 HZ.out
          exact bodyPost_ret (results_cell_row rfl _ _ w.heap.size 39 (cfgCells m vC vR).toArray (0, 0) _ (by rfl) (setRow_heap wr _ _ _ 39 (0, 0) HZ.out) Yba.underlying39 rfl hi39) rfl ⟨vC, vR, rfl, (HRO.out.1.kept hg (Or.inr (fun h => by have := HRO.out.1.lt _ h; omega))).mono (by omega), (HRO.out.2.1.kept hg (Or.inr (fun h => by have := HRO.out.2.1.lt _ h; omega))).mono (by omega), below_grown HRO.out.2.2 hg (Nat.le_refl _) (fun k hk => by cases hk; omega)⟩
end Go.Proofs.Ybulkoc
