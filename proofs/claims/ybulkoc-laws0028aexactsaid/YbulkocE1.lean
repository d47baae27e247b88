import Derived.Test.YbulkocE0
namespace Go.Proofs.Ybulkoc
set_option linter.unusedVariables false
set_option linter.unusedSimpArgs false
open Go.RowKit
attribute [local go_sem] run_store_float run_store_nilFunc

set_option maxRecDepth 100000 in
set_option maxHeartbeats 4000000 in
theorem expect_any (m nc nr cC cR t : Nat) (aC aR : Option Addr) (mv : Value) (CL : List (Int × Int)) (RL : List (Int × Int × Int × ByteArray)) (PV : Nat → ByteArray) (w : World) (htm : t < m) (hmap : ∀ wx, Below w.heap.size w wx → ∀ k : Nat, 1 ≤ k → k ≤ 8 → (Instr.lookup 24 mv (.int .i64 (k : Int)) false).run Yba.prog wx = .ok (.string (PV k)) wx) (hin : CfgIn w aC aR nc nr cC cR m CL RL) :
    Calls Yba.prog 7 #[.agg #[.int .i64 m, .int .i64 0, .int .u64 0, .int .i64 0, .int .u8 0, .int .i64 0, .int .i64 0, .float .f64 0, .slice none 0 0, .slice aC nc cC, .slice none 0 0, .slice aR nr cR, .nilFunc, .pointer none, .pointer none, .bool false], mv, .int .i64 ((t : Int) + 1)] w fun e w' => ∃ (v : Value) (P : List Pr), e = .returned v ∧ w'.ownsRow w.heap.size 48 3 v P.length (prCells P) ∧
      (∃ L', Shuf 0 (stA CL RL aR nr t).length (mk (stA CL RL aR nr t)) L' ∧ Sorted L' 0 (stA CL RL aR nr t).length ∧ P = ex1 0 (PV (t + 1)) (headAt (from_ L' 0 (stA CL RL aR nr t).length)) ++ exs (frOf RL) (vlOf RL) (PV (t + 1)) (from_ L' 0 (stA CL RL aR nr t).length)) ∧ Below w.heap.size w w' := by
  have HIN := hide hin
  have HMAP := hide hmap
  clear hmap
  have hm1 := hin.m1
  have hm8 := hin.m8
  have hnc := hin.smallC
  have hcc := hin.capC
  have hnr := hin.smallR
  have hcr := hin.capR
  clear hin
  obtain ⟨i71, hi0, hz0, hz1, hz2⟩ := info_parts info71
  have H71 := hide (And.intro hi0 (And.intro hz0 (And.intro hz1 hz2)))
  clear hi0 hz0 hz1 hz2
  obtain ⟨i48, hi0, hz0, hz1, hz2⟩ := info_parts info48
  have H48 := hide (And.intro hi0 (And.intro hz0 (And.intro hz1 hz2)))
  clear hi0 hz0 hz1 hz2
  have HB0 : Hid (Row (w.alloc (.cells #[.int .i64 m, .int .i64 0, .int .u64 0, .int .i64 0, .int .u8 0, .int .i64 0, .int .i64 0, .float .f64 0, .slice none 0 0, .slice aC nc cC, .slice none 0 0, .slice aR nr cR, .nilFunc, .pointer none, .pointer none, .bool false] 39)) w.heap.size 39 (cfgCells m (.slice aC nc cC) (.slice aR nr cR))) := Row.new w 39 (cfgCells m (.slice aC nc cC) (.slice aR nr cR))
  have HWw : Hid (Below w.heap.size w (w.alloc (.cells #[.int .i64 m, .int .i64 0, .int .u64 0, .int .i64 0, .int .u8 0, .int .i64 0, .int .i64 0, .float .f64 0, .slice none 0 0, .slice aC nc cC, .slice none 0 0, .slice aR nr cR, .nilFunc, .pointer none, .pointer none, .bool false] 39))) := (Below.refl _ _).alloc (Nat.le_refl _) _
  have HBs : Hid ((w.alloc (.cells #[.int .i64 m, .int .i64 0, .int .u64 0, .int .i64 0, .int .u8 0, .int .i64 0, .int .i64 0, .float .f64 0, .slice none 0 0, .slice aC nc cC, .slice none 0 0, .slice aR nr cR, .nilFunc, .pointer none, .pointer none, .bool false] 39)).heap.size = w.heap.size + 1) := by simp [hide]
  have c9 := HB0.out.cell (o := 9) rfl
  go_enter Yba.func7, Yba.ntmps7
  go_wp2_with fail
  clear c9
  obtain ⟨wB, hwB⟩ : ∃ x, x = w.alloc (.cells #[.int .i64 m, .int .i64 0, .int .u64 0, .int .i64 0, .int .u8 0, .int .i64 0, .int .i64 0, .float .f64 0, .slice none 0 0, .slice aC nc cC, .slice none 0 0, .slice aR nr cR, .nilFunc, .pointer none, .pointer none, .bool false] 39) := ⟨_, rfl⟩
  rw [← hwB]
  rw [← hwB] at HB0 HWw HBs
  clear hwB
  go_loopw [24, 7] (fun iv lv wr => ∃ (i : Nat), iv = .int .i64 i ∧ i ≤ nc ∧ Hid (wr.ownsRow (w.heap.size + 1) 71 4 lv (stC CL i t).length (zCells (frOf RL) (vlOf RL) (PV (t + 1)) (stC CL i t)) ∧ Below (w.heap.size + 1) wB wr)) (fun iv _ _ => nc - (intOf iv).toNat)
  case atStart => exact ⟨0, by go_num, Nat.zero_le _, ⟨rfl, Or.inl ⟨rfl, rfl⟩⟩, Below.refl _ _⟩
  case round =>
    obtain ⟨i, rfl, hic, HV⟩ := hrel
    by_cases hlt0 : i < nc
    · have hd : decide ((i : Int) < (nc : Int)) = true := by simp; omega
      obtain ⟨b, rfl, hb, hcells⟩ := HIN.out.crash (by omega)
      obtain ⟨q0, q1⟩ := hcells i hlt0
      have hbw : Below w.heap.size w wr := HWw.out.trans (HV.out.2.mono (by omega))
      rw [← hbw.cell (p := ⟨b, i * 2, none⟩) hb] at q0
      rw [← hbw.cell (p := ⟨b, i * 2 + 1, none⟩) hb] at q1
      have HH := hide (stC_hit CL i t (by rw [HIN.out.lenC]; exact hlt0))
      have HM2 := hide (stC_miss CL i t (by rw [HIN.out.lenC]; exact hlt0))
      have hle := stC_le CL i t
      rw [HIN.out.lenC] at hle
      clear hcells hbw
      generalize (CL.getD i (0, 0)).1 = mm at *
      generalize (CL.getD i (0, 0)).2 = c2 at *
      have hin2 : (i : Int) < (nc : Int) := by omega
      have hbs := HBs.out
      have hbz : wB.heap.size ≤ wr.heap.size := HV.out.2.size
      have HBS := hide hbs
      have hN1 : w.heap.size + 1 ≤ wr.heap.size := by omega
      clear hbs hbz
      have HO := hide HV.out.1
      have HBv := hide HV.out.2
      clear HV
      by_cases hit : mm = (t : Int) + 1
      · have hdm : (mm == (t : Int) + 1) = true := by simp; exact hit
        have HE := hide (HH.out hit)
        clear hit HH HM2
        go_wp2_with (at_builtin; refine wpList_append_lies _ rfl (.tmp 32) (.tmp 36) 69 rfl (w.heap.size + 1) 71 i71 _ 4 40 Yba.underlying69 H71.out.1 H71.out.2.1 H71.out.2.2.1 H71.out.2.2.2 rfl (by omega) _ (stC CL i t).length (zCells (frOf RL) (vlOf RL) (PV (t + 1)) (stC CL i t)) rfl ((HO.out.alloc _).alloc _) ⟨wr.heap.size + 1, 0, none⟩ 1 1 [.int .i64 c2, .bool false, .int .i64 0, .string .empty] rfl rfl (World.news_of_block (cs := #[.int .i64 c2, .bool false, .int .i64 0, .string .empty]) (t := 71) (fr := (0, 0)) (by rw [show wr.heap.size + 1 = (wr.alloc (.cells #[.int .i64 mm, .int .i64 c2] 56)).heap.size by simp]; exact heap_alloc_new _ _)) (by simp [Value.oneCell']) (by omega) (by unfold maxLen; omega) (by omega) (by simp; omega) (wr.heap.size + 2) (by simp) ?_; intro gg cap w1 hown hgrow hat hlt)
        go_roundw
        case rel =>
          refine ⟨i + 1, by go_num, by omega, ?_, below_grown HBv.out ((grown_alloc wr _ _).trans ((grown_alloc _ _ _).trans hgrow)) (by rw [HBS.out]; exact Nat.le_refl _) (fun k hk => (HO.out.lt k hk).1)⟩
          rw [HE.out, List.length_append, zCells_snoc]
          exact hown
        case measure => simp [intOf]; omega
      · have hdm : (mm == (t : Int) + 1) = false := by simp; exact hit
        have HE := hide (HM2.out hit)
        clear hit HH HM2
        go_wp2
        go_roundw
        case rel => exact ⟨i + 1, by go_num, by omega, by rw [HE.out]; exact HO.out.alloc _, below_grown HBv.out (grown_alloc _ _ none) (by rw [HBS.out]; exact Nat.le_refl _) (fun k hk => by cases hk)⟩
        case measure => simp [intOf]; omega
    · have hd : decide ((i : Int) < (nc : Int)) = false := by simp; omega
      obtain rfl : i = nc := by omega
      have HO : Hid (wr.ownsRow (w.heap.size + 1) 71 4 u7 (stA CL RL aR 0 t).length (zCells (frOf RL) (vlOf RL) (PV (t + 1)) (stA CL RL aR 0 t))) := by
        have h := HV.out.1
        rw [← HIN.out.lenC] at h
        rw [stA_zero]
        exact h
      have HBv := hide HV.out.2
      have HRb : Hid (Row wr w.heap.size 39 (cfgCells m (.slice aC i cC) (.slice aR nr cR))) := (HV.out.2.block w.heap.size (by omega)).trans HB0.out
      have b11 := HRb.out.cell (o := 11) rfl
      clear HV HRb
      go_wp2_with fail
      clear b11 hd
      generalize u7 = lv0 at *
      go_loopw [42, 7] (fun jv lv wr => ∃ (j : Nat), jv = .int .i64 j ∧ j ≤ nr ∧ Hid (wr.ownsRow (w.heap.size + 1) 71 4 lv (stA CL RL aR j t).length (zCells (frOf RL) (vlOf RL) (PV (t + 1)) (stA CL RL aR j t)) ∧ Below (w.heap.size + 1) wB wr)) (fun jv _ _ => nr - (intOf jv).toNat)
      case atStart => exact ⟨0, by go_num, Nat.zero_le _, HO.out, HBv.out⟩
      case round =>
        clear HO HBv
        obtain ⟨j, rfl, hjr, HV⟩ := hrel
        by_cases hlt1 : j < nr
        · have hd : decide ((j : Int) < (nr : Int)) = true := by simp; omega
          obtain ⟨b, rfl, hb, hcells⟩ := HIN.out.rest (by omega)
          obtain ⟨q0, q1, q2, q3⟩ := hcells j hlt1
          obtain ⟨rg1, rg2, rg3, rg4⟩ := HIN.out.rngR j
          have hbw : Below w.heap.size w wr := HWw.out.trans (HV.out.2.mono (by omega))
          rw [← hbw.cell (p := ⟨b, j * 4, none⟩) hb] at q0
          rw [← hbw.cell (p := ⟨b, j * 4 + 1, none⟩) hb] at q1
          rw [← hbw.cell (p := ⟨b, j * 4 + 2, none⟩) hb] at q2
          rw [← hbw.cell (p := ⟨b, j * 4 + 3, none⟩) hb] at q3
          have HBW := hide hbw
          have HH := hide (stA_hit CL RL (some ⟨b, 0, none⟩) j t)
          have HM2 := hide (stA_miss CL RL (some ⟨b, 0, none⟩) j t)
          have hle := stA_le CL RL (some ⟨b, 0, none⟩) j t
          rw [HIN.out.lenC] at hle
          have HFr : Hid (frOf RL ⟨grOf (some ⟨b, 0, none⟩), j * 4, none⟩ = (RL.getD j (0, 0, 0, .empty)).2.2.1) := by simp [frOf, hide]
          have HVl : Hid (vlOf RL ⟨grOf (some ⟨b, 0, none⟩), j * 4, none⟩ = (RL.getD j (0, 0, 0, .empty)).2.2.2) := by simp [vlOf, hide]
          clear hcells hbw
          generalize (RL.getD j (0, 0, 0, .empty)).1 = mm at *
          generalize (RL.getD j (0, 0, 0, .empty)).2.1 = c2 at *
          generalize (RL.getD j (0, 0, 0, .empty)).2.2.1 = fo at *
          generalize (RL.getD j (0, 0, 0, .empty)).2.2.2 = vv at *
          have wf : IntKind.i64.wrap (c2 + fo) = c2 + fo := wrapN _ (by omega) (by omega)
          have hin2 : (j : Int) < (nr : Int) := by omega
          have hbs := HBs.out
          have hbz : wB.heap.size ≤ wr.heap.size := HV.out.2.size
          have HBS := hide hbs
          have hN1 : w.heap.size + 1 ≤ wr.heap.size := by omega
          clear hbs hbz
          have HO := hide HV.out.1
          have HBv := hide HV.out.2
          clear HV
          by_cases hit : mm = (t : Int) + 1
          · have hdm : (mm == (t : Int) + 1) = true := by simp; exact hit
            have HE := hide (HH.out hit)
            clear hit HH HM2
            have HZ : Hid (zCells (frOf RL) (vlOf RL) (PV (t + 1)) (stA CL RL (some ⟨b, 0, none⟩) (j + 1) t) = zCells (frOf RL) (vlOf RL) (PV (t + 1)) (stA CL RL (some ⟨b, 0, none⟩) j t) ++ [.int .i64 c2, .bool true, .int .i64 (c2 + fo), .string (orS vv (PV (t + 1)))]) := by
              show zCells (frOf RL) (vlOf RL) (PV (t + 1)) (stA CL RL (some ⟨b, 0, none⟩) (j + 1) t) = _
              rw [HE.out, zCells_snoc]
              simp only [zc, zf, zv, HFr.out, HVl.out, Option.isSome_some]
            cases hx : vv.toList.isEmpty with
            | true =>
              have ho : orS vv (PV (t + 1)) = PV (t + 1) := by simp [orS, hx]
              rw [ho] at HZ
              have hlk := HMAP.out (wr.alloc (.cells #[.int .i64 mm, .int .i64 c2, .int .i64 fo, .string vv] 51)) (below_grown HBW.out (grown_alloc _ _ none) (Nat.le_refl _) (fun k hk => by cases hk)) (t + 1) (by omega) (by omega)
              rw [show ((t + 1 : Nat) : Int) = (t : Int) + 1 by omega] at hlk
              clear ho
              go_wp2_with (at_builtin; refine wpList_append_lies _ rfl (.tmp 57) (.tmp 67) 69 rfl (w.heap.size + 1) 71 i71 _ 4 40 Yba.underlying69 H71.out.1 H71.out.2.1 H71.out.2.2.1 H71.out.2.2.2 rfl (by omega) _ (stA CL RL (some ⟨b, 0, none⟩) j t).length (zCells (frOf RL) (vlOf RL) (PV (t + 1)) (stA CL RL (some ⟨b, 0, none⟩) j t)) rfl ((HO.out.alloc _).alloc _) ⟨wr.heap.size + 1, 0, none⟩ 1 1 [.int .i64 c2, .bool true, .int .i64 (c2 + fo), .string (PV (t + 1))] rfl rfl (World.news_of_block (cs := #[.int .i64 c2, .bool true, .int .i64 (c2 + fo), .string (PV (t + 1))]) (t := 71) (fr := (0, 0)) (by rw [show wr.heap.size + 1 = (wr.alloc (.cells #[.int .i64 mm, .int .i64 c2, .int .i64 fo, .string vv] 51)).heap.size by simp]; exact heap_alloc_new _ _)) (by simp [Value.oneCell']) (by omega) (by unfold maxLen; omega) (by omega) (by simp; omega) (wr.heap.size + 2) (by simp) ?_; intro gg cap w1 hown hgrow hat hlt)
              go_roundw
              case rel =>
                refine ⟨j + 1, by go_num, by omega, ?_, below_grown HBv.out ((grown_alloc wr _ _).trans ((grown_alloc _ _ _).trans hgrow)) (by rw [HBS.out]; exact Nat.le_refl _) (fun k hk => (HO.out.lt k hk).1)⟩
                rw [HZ.out, HE.out, List.length_append]
                exact hown
              case measure => simp [intOf]; omega
            | false =>
              have ho : orS vv (PV (t + 1)) = vv := by simp [orS, hx]
              rw [ho] at HZ
              clear ho
              go_wp2_with (at_builtin; refine wpList_append_lies _ rfl (.tmp 57) (.tmp 67) 69 rfl (w.heap.size + 1) 71 i71 _ 4 40 Yba.underlying69 H71.out.1 H71.out.2.1 H71.out.2.2.1 H71.out.2.2.2 rfl (by omega) _ (stA CL RL (some ⟨b, 0, none⟩) j t).length (zCells (frOf RL) (vlOf RL) (PV (t + 1)) (stA CL RL (some ⟨b, 0, none⟩) j t)) rfl ((HO.out.alloc _).alloc _) ⟨wr.heap.size + 1, 0, none⟩ 1 1 [.int .i64 c2, .bool true, .int .i64 (c2 + fo), .string (vv)] rfl rfl (World.news_of_block (cs := #[.int .i64 c2, .bool true, .int .i64 (c2 + fo), .string (vv)]) (t := 71) (fr := (0, 0)) (by rw [show wr.heap.size + 1 = (wr.alloc (.cells #[.int .i64 mm, .int .i64 c2, .int .i64 fo, .string vv] 51)).heap.size by simp]; exact heap_alloc_new _ _)) (by simp [Value.oneCell']) (by omega) (by unfold maxLen; omega) (by omega) (by simp; omega) (wr.heap.size + 2) (by simp) ?_; intro gg cap w1 hown hgrow hat hlt)
              go_roundw
              case rel =>
                refine ⟨j + 1, by go_num, by omega, ?_, below_grown HBv.out ((grown_alloc wr _ _).trans ((grown_alloc _ _ _).trans hgrow)) (by rw [HBS.out]; exact Nat.le_refl _) (fun k hk => (HO.out.lt k hk).1)⟩
                rw [HZ.out, HE.out, List.length_append]
                exact hown
              case measure => simp [intOf]; omega
          · have hdm : (mm == (t : Int) + 1) = false := by simp; exact hit
            have HE := hide (HM2.out hit)
            clear hit HH HM2
            go_wp2
            go_roundw
            case rel => exact ⟨j + 1, by go_num, by omega, by rw [HE.out]; exact HO.out.alloc _, below_grown HBv.out (grown_alloc _ _ none) (by rw [HBS.out]; exact Nat.le_refl _) (fun k hk => by cases hk)⟩
            case measure => simp [intOf]; omega
        · have hd : decide ((j : Int) < (nr : Int)) = false := by simp; omega
          obtain rfl : j = nr := by omega
          have hnl := stA_le CL RL aR j t
          rw [HIN.out.lenC] at hnl
          obtain ⟨S, hS⟩ : ∃ S, stA CL RL aR j t = S := ⟨_, rfl⟩
          rw [hS] at HV hnl
          have HSE := hide hS
          clear hS
          obtain ⟨aV, capV, rfl, hcapV, hform⟩ := own_form HV.out.1
          have HFO := hide hform
          have HBv := hide HV.out.2
          have HZT : Hid (∀ g, aV = some ⟨g, 0, none⟩ → Zt (frOf RL) (vlOf RL) (PV (t + 1)) wr g S.length (mk S)) := fun g hg => by
            have h := HV.out.1
            rw [hg] at h
            exact zt_of wr _ capV S h
          have HBl : Hid ((w.heap.size + 1) ≤ wB.heap.size) := Nat.le_of_eq HBs.out.symm
          have HLB : Hid (∀ g, aV = some ⟨g, 0, none⟩ → (w.heap.size + 1) ≤ g) := fun g hg => (HV.out.1.lt g (by rw [hg]; rfl)).1
          clear hform HV
          go_wp2_with fail
          go_loopw [13] (fun jv wr => ∃ (y : Nat) (M : Nat → E), jv = .int .i64 y ∧ 1 ≤ y ∧ (y ≤ S.length ∨ y ≤ 1) ∧ Hid ((∀ g, aV = some ⟨g, 0, none⟩ → Zt (frOf RL) (vlOf RL) (PV (t + 1)) wr g S.length M) ∧ Shuf 0 y (mk S) M ∧ Sorted M 0 y ∧ Below (w.heap.size + 1) wB wr)) (fun jv _ => S.length - (intOf jv).toNat)
          case atStart => exact ⟨1, mk S, by go_num, Nat.le_refl _, Or.inr (Nat.le_refl _), HZT.out, Shuf.refl _ _ _, fun i j h1 h2 h3 => by omega, HBv.out⟩
          case round =>
            clear HZT HBv hd
            obtain ⟨y, M, rfl, hy1, hyn, HJ⟩ := hrel
            by_cases hlt2 : y < S.length
            · have hd : decide ((y : Int) < (S.length : Int)) = true := by simp; omega
              obtain ⟨g, rfl, hg1, hg2⟩ := HFO.out (by omega)
              go_wp2_with fail
              have HS0 : Hid (Zt (frOf RL) (vlOf RL) (PV (t + 1)) wr g S.length M ∧ Shuf 0 (y + 1) (mk S) M ∧ Ins M 0 y y ∧ Below (w.heap.size + 1) wB wr) := by
                refine ⟨HJ.out.1 g rfl, HJ.out.2.1.mono (Nat.le_refl _) (by omega), Ins.start HJ.out.2.2.1 (fun p h1 h2 => ?_), HJ.out.2.2.2⟩
                obtain ⟨q, h3, h4, h5⟩ := HJ.out.2.1.inn h1 h2
                rw [h5, HJ.out.2.1.out (Or.inr (Nat.le_refl _))]
                exact h4
              clear HJ
              go_loopw [14] (fun kv wr => ∃ (k : Nat) (N : Nat → E), kv = .int .i64 k ∧ k ≤ y ∧ Hid (Zt (frOf RL) (vlOf RL) (PV (t + 1)) wr g S.length N ∧ Shuf 0 (y + 1) (mk S) N ∧ Ins N 0 y k ∧ Below (w.heap.size + 1) wB wr)) (fun kv _ => (intOf kv).toNat)
              case atStart => exact ⟨y, M, rfl, Nat.le_refl _, HS0.out⟩
              case round =>
                clear HS0 hd
                obtain ⟨k, N, rfl, hky, HJ⟩ := hrel
                have hgz := HJ.out.1.lt
                by_cases hk0 : 0 < k
                · have hdz : decide ((0 : Int) < (k : Int)) = true := by simp; omega
                  obtain ⟨kp, hkp1, hkp2⟩ : ∃ kp, kp + 1 ≤ k ∧ k ≤ kp + 1 := ⟨k - 1, by omega, by omega⟩
                  have wk : IntKind.i64.wrap ((k : Int) - 1) = (kp : Int) := by rw [wrapN _ (by omega) (by omega)]; omega
                  have i1 : (k : Int) < (S.length : Int) := by omega
                  have i2 : (kp : Int) < (S.length : Int) := by omega
                  have c0 := HJ.out.1.at0 k (by omega)
                  have c1 := HJ.out.1.at1 k (by omega)
                  have c2 := HJ.out.1.at2 k (by omega)
                  have c3 := HJ.out.1.at3 k (by omega)
                  have d0 := HJ.out.1.at0 kp (by omega)
                  have d1 := HJ.out.1.at1 kp (by omega)
                  have d2 := HJ.out.1.at2 kp (by omega)
                  have d3 := HJ.out.1.at3 kp (by omega)
                  have HIS := hide (fun h => HJ.out.2.2.1.step (by omega : 0 < k) hky h)
                  rw [show k - 1 = kp by omega] at HIS
                  by_cases hk : (N k).1 < (N kp).1
                  · have hdk : decide ((N k).1 < (N kp).1) = true := by simp; exact hk
                    go_wp2_with fail
                    go_quiet (fail)
                    clear c0 c1 c2 c3 d0 d1 d2 d3
                    have HQ : Hid (Zt (frOf RL) (vlOf RL) (PV (t + 1)) (wr.drewN nq) g S.length N ∧ Below (w.heap.size + 1) wB (wr.drewN nq)) := ⟨HJ.out.1.drewN _, below_drewN HJ.out.2.2.2 _⟩
                    generalize wr.drewN nq = wq at *
                    have c0 := HQ.out.1.at0 k (by omega)
                    have c1 := HQ.out.1.at1 k (by omega)
                    have c2 := HQ.out.1.at2 k (by omega)
                    have c3 := HQ.out.1.at3 k (by omega)
                    have d0 := HQ.out.1.at0 kp (by omega)
                    have d1 := HQ.out.1.at1 kp (by omega)
                    have d2 := HQ.out.1.at2 kp (by omega)
                    have d3 := HQ.out.1.at3 kp (by omega)
                    have f0 := HQ.out.1.free (k * 4)
                    have f1 := HQ.out.1.free (k * 4 + 1)
                    have f2 := HQ.out.1.free (k * 4 + 2)
                    have f3 := HQ.out.1.free (k * 4 + 3)
                    have g0 := HQ.out.1.free (kp * 4)
                    have g1 := HQ.out.1.free (kp * 4 + 1)
                    have g2 := HQ.out.1.free (kp * 4 + 2)
                    have g3 := HQ.out.1.free (kp * 4 + 3)
                    have hgq := HQ.out.1.lt
                    have HQA := hide (HQ.out.1.grow0 (grown_alloc wq (.cells #[.int .i64 (N k).1, .bool (N k).2.1.isSome, .int .i64 (zf (frOf RL) (N k).1 (N k).2.1), .string (zv (vlOf RL) (PV (t + 1)) (N k).2.1)] 71) none))
                    have c0' := HQA.out.at0 k (by omega)
                    have d0' := HQA.out.at0 kp (by omega)
                    have f0' := HQA.out.free (k * 4)
                    have g0' := HQA.out.free (kp * 4)
                    have c1' := HQA.out.at1 k (by omega)
                    have d1' := HQA.out.at1 kp (by omega)
                    have f1' := HQA.out.free (k * 4 + 1)
                    have g1' := HQA.out.free (kp * 4 + 1)
                    have c2' := HQA.out.at2 k (by omega)
                    have d2' := HQA.out.at2 kp (by omega)
                    have f2' := HQA.out.free (k * 4 + 2)
                    have g2' := HQA.out.free (kp * 4 + 2)
                    have c3' := HQA.out.at3 k (by omega)
                    have d3' := HQA.out.at3 kp (by omega)
                    have f3' := HQA.out.free (k * 4 + 3)
                    have g3' := HQA.out.free (kp * 4 + 3)
                    go_wp2_with fail
                    go_roundw
                    case rel =>
                      refine ⟨kp, swp N k kp, rfl, by omega, ?_, HJ.out.2.1.trans (Shuf.swap N (by omega) (by omega)), HIS.out hk, ?_⟩
                      · have h := (HQ.out.1.set k (by omega) (N kp)).set kp (by omega) (N k)
                        rw [set_set N k kp (by omega)] at h
                        exact h.grow0 (grown_alloc _ _ none)
                      · exact below_grown (below_set (below_set (below_set (below_set (below_set (below_set (below_set (below_set HQ.out.2 HBl.out hg1) HBl.out hg1) HBl.out hg1) HBl.out hg1) HBl.out hg1) HBl.out hg1) HBl.out hg1) HBl.out hg1) (grown_alloc _ _ none) HBl.out (fun k hk => by cases hk)
                    case measure => simp [intOf]; omega
                  · have hdk : decide ((N k).1 < (N kp).1) = false := by simp only [decide_eq_false_iff_not]; exact hk
                    have HST := hide (HJ.out.2.2.1.stop hky (Nat.zero_le _) (Or.inr (by rw [show k - 1 = kp by omega]; exact hk)))
                    go_wp2_with fail
                    go_quiet (fail)
                    go_wp2
                    go_roundw
                    case rel => exact ⟨y + 1, N, by go_num, by omega, Or.inl (by omega), fun g' hg' => by cases hg'; exact HJ.out.1.drewN _, HJ.out.2.1, HST.out, below_drewN HJ.out.2.2.2 _⟩
                    case measure => simp [intOf]; omega
                · have hdz : decide ((0 : Int) < (k : Int)) = false := by simp; omega
                  have HST := hide (HJ.out.2.2.1.stop hky (Nat.zero_le _) (Or.inl (by omega)))
                  go_wp2_with fail
                  go_quiet (fail)
                  go_wp2
                  go_roundw
                  case rel => exact ⟨y + 1, N, by go_num, by omega, Or.inl (by omega), fun g' hg' => by cases hg'; exact HJ.out.1.drewN _, HJ.out.2.1, HST.out, below_drewN HJ.out.2.2.2 _⟩
                  case measure => simp [intOf]; omega
            · have hd : decide ((y : Int) < (S.length : Int)) = false := by simp; omega
              have HSH : Hid (Shuf 0 S.length (mk S) M ∧ Sorted M 0 S.length) := by
                refine ⟨?_, fun p q h1 h2 h3 => HJ.out.2.2.1 p q h1 h2 (by omega)⟩
                by_cases e : y ≤ 1
                · rw [shuf_one HJ.out.2.1 e]; exact Shuf.refl _ _ _
                · have h := HJ.out.2.1
                  rw [show y = S.length by omega] at h
                  exact h
              have HZ0 := hide HJ.out.1
              have HBv := hide HJ.out.2.2.2
              clear HJ
              obtain ⟨TOT, hTOT⟩ : ∃ T, T = ex1 0 (PV (t + 1)) (headAt (from_ M 0 S.length)) ++ exs (frOf RL) (vlOf RL) (PV (t + 1)) (from_ M 0 S.length) := ⟨_, rfl⟩
              have HTOT := hide hTOT
              clear hTOT
              go_wp2_with fail
              clear hd
              go_loopw [17, 16] (fun zv ov wr => ∃ (z : Int) (P : List Pr), zv = .int .i64 z ∧ -1 ≤ z ∧ z ≤ (S.length : Int) ∧ (P.length : Int) ≤ z + 1 ∧ Hid (wr.ownsRow (w.heap.size + 1) 48 3 ov P.length (prCells P) ∧ (∀ g, aV = some ⟨g, 0, none⟩ → Zt (frOf RL) (vlOf RL) (PV (t + 1)) wr g S.length M ∧ ov.ownBlock ≠ some g) ∧ Below (w.heap.size + 1) wB wr ∧ (z = -1 → P = []) ∧ (∀ q : Nat, z = (q : Int) → P ++ exs (frOf RL) (vlOf RL) (PV (t + 1)) (from_ M q S.length) = TOT))) (fun zv _ _ => ((S.length : Int) - intOf zv).toNat)
              case atStart => exact ⟨-1, [], by go_num, by omega, by omega, by simp, ⟨rfl, Or.inl ⟨rfl, rfl⟩⟩, fun g hg => ⟨HZ0.out g hg, by simp [Value.ownBlock]⟩, HBv.out, fun _ => rfl, fun q hq => by omega⟩
              case round =>
                clear HZ0 HBv
                obtain ⟨z, P, rfl, hz1, hz2, hPz, HJ⟩ := hrel
                have HO := hide HJ.out.1
                have HZ := hide HJ.out.2.1
                have HBv := hide HJ.out.2.2.1
                have hbs := HBl.out
                have hbz : wB.heap.size ≤ wr.heap.size := HBv.out.size
                have hN1 : w.heap.size + 1 ≤ wr.heap.size := by omega
                clear hbs hbz
                by_cases hlz : z < (S.length : Int)
                · have hd : decide (z < (S.length : Int)) = true := by simp; omega
                  have hlk := HMAP.out wr (HWw.out.trans (HBv.out.mono (by omega))) (t + 1) (by omega) (by omega)
                  rw [show ((t + 1 : Nat) : Int) = (t : Int) + 1 by omega] at hlk
                  by_cases hz : z = -1
                  · subst hz
                    have hP := HJ.out.2.2.2.1 rfl
                    have HTT := hide HTOT.out
                    clear HJ
                    rw [headAt_from] at HTT
                    by_cases hn : 0 < S.length
                    · have hdn : decide ((0 : Int) < (S.length : Int)) = true := by simp only [decide_eq_true_eq]; omega
                      have hn2 : (0 : Int) < (S.length : Int) := by omega
                      obtain ⟨g, rfl, _, _⟩ := HFO.out hn
                      have c0 := (HZ.out g rfl).1.at0 0 hn
                      rw [Nat.zero_mul] at c0
                      rw [if_pos hn] at HTT
                      generalize (M 0).1 = en at *
                      have HEQ : Hid ((P ++ ex1 0 (PV (t + 1)) en) ++ exs (frOf RL) (vlOf RL) (PV (t + 1)) (from_ M 0 S.length) = TOT) := by rw [hP]; exact HTT.out.symm
                      clear hP HTT
                      by_cases hfe : (0 : Int) < en
                      · have hdf : decide ((0 : Int) < en) = true := by simp; exact hfe
                        have HEF : Hid ((P ++ [((0 : Int), en, (PV (t + 1)))]) ++ exs (frOf RL) (vlOf RL) (PV (t + 1)) (from_ M 0 S.length) = TOT) := by have h := HEQ.out; rw [ex1, if_pos hfe] at h; exact h
                        clear hfe HEQ
                        go_wp2_with (at_builtin; refine wpList_append_lies _ rfl (.tmp 153) (.tmp 159) 43 rfl (w.heap.size + 1) 48 i48 _ 3 32 Yba.underlying43 H48.out.1 H48.out.2.1 H48.out.2.2.1 H48.out.2.2.2 rfl (by omega) _ P.length (prCells P) rfl (HO.out.alloc _) ⟨wr.heap.size, 0, none⟩ 1 1 [.int .i64 (0 : Int), .int .i64 en, .string (PV (t + 1))] rfl rfl (World.news_of_block (cs := #[.int .i64 (0 : Int), .int .i64 en, .string (PV (t + 1))]) (t := 48) (fr := (0, 0)) (heap_alloc_new wr _)) (by simp [Value.oneCell']) (by omega) (by unfold maxLen; omega) (by omega) (by simp; omega) (wr.heap.size + 1) (by simp) ?_; intro gg cap w1 hown hgrow hat hlt)
                        go_roundw
                        case rel =>
                          refine ⟨(-1) + 1, P ++ [((0 : Int), en, (PV (t + 1)))], by go_num, by omega, by omega, by simp; omega, ?_, fun g' hg' => ?_, below_grown HBv.out ((grown_alloc wr _ _).trans hgrow) HBl.out (fun k hk => (HO.out.lt k hk).1), fun h => by omega, fun q' hq' => ?_⟩
                          · rw [List.length_append, prCells_snoc]
                            exact hown
                          · obtain ⟨z1, z2⟩ := HZ.out g' hg'
                            refine ⟨z1.grow ((grown_alloc wr _ _).trans hgrow) z2, fun e => ?_⟩
                            have e' : gg = g' := by simpa [Value.ownBlock] using e
                            have := z1.lt
                            rcases hat with k1 | k1
                            · exact z2 (k1.trans (congrArg some e'))
                            · omega
                          · rw [show q' = 0 by omega]; exact HEF.out
                        case measure => simp [intOf] <;> omega
                      · have hdf : decide ((0 : Int) < en) = false := by simp only [decide_eq_false_iff_not]; exact hfe
                        have HEF : Hid (P ++ exs (frOf RL) (vlOf RL) (PV (t + 1)) (from_ M 0 S.length) = TOT) := by have h := HEQ.out; rw [ex1, if_neg hfe, List.append_nil] at h; exact h
                        clear hfe HEQ
                        go_wp2
                        go_roundw
                        case rel => exact ⟨(-1) + 1, P, by go_num, by omega, by omega, by omega, HO.out, HZ.out, HBv.out, fun h => by omega, fun q' hq' => by rw [show q' = 0 by omega]; exact HEF.out⟩
                        case measure => simp [intOf] <;> omega
                    · have hdn : decide ((0 : Int) < (S.length : Int)) = false := by simp only [decide_eq_false_iff_not]; omega
                      rw [if_neg hn] at HTT
                      have HEQ : Hid ((P ++ ex1 0 (PV (t + 1)) 4611686018427387904) ++ exs (frOf RL) (vlOf RL) (PV (t + 1)) (from_ M 0 S.length) = TOT) := by rw [hP]; exact HTT.out.symm
                      clear hP HTT
                      have hfe : (0 : Int) < (4611686018427387904 : Int) := by decide
                      have HEF : Hid ((P ++ [((0 : Int), 4611686018427387904, (PV (t + 1)))]) ++ exs (frOf RL) (vlOf RL) (PV (t + 1)) (from_ M 0 S.length) = TOT) := by have h := HEQ.out; rw [ex1, if_pos hfe] at h; exact h
                      clear hfe HEQ
                      go_wp2_with (at_builtin; refine wpList_append_lies _ rfl (.tmp 153) (.tmp 159) 43 rfl (w.heap.size + 1) 48 i48 _ 3 32 Yba.underlying43 H48.out.1 H48.out.2.1 H48.out.2.2.1 H48.out.2.2.2 rfl (by omega) _ P.length (prCells P) rfl (HO.out.alloc _) ⟨wr.heap.size, 0, none⟩ 1 1 [.int .i64 (0 : Int), .int .i64 4611686018427387904, .string (PV (t + 1))] rfl rfl (World.news_of_block (cs := #[.int .i64 (0 : Int), .int .i64 4611686018427387904, .string (PV (t + 1))]) (t := 48) (fr := (0, 0)) (heap_alloc_new wr _)) (by simp [Value.oneCell']) (by omega) (by unfold maxLen; omega) (by omega) (by simp; omega) (wr.heap.size + 1) (by simp) ?_; intro gg cap w1 hown hgrow hat hlt)
                      go_roundw
                      case rel =>
                        refine ⟨(-1) + 1, P ++ [((0 : Int), 4611686018427387904, (PV (t + 1)))], by go_num, by omega, by omega, by simp; omega, ?_, fun g' hg' => ?_, below_grown HBv.out ((grown_alloc wr _ _).trans hgrow) HBl.out (fun k hk => (HO.out.lt k hk).1), fun h => by omega, fun q' hq' => ?_⟩
                        · rw [List.length_append, prCells_snoc]
                          exact hown
                        · obtain ⟨z1, z2⟩ := HZ.out g' hg'
                          refine ⟨z1.grow ((grown_alloc wr _ _).trans hgrow) z2, fun e => ?_⟩
                          have e' : gg = g' := by simpa [Value.ownBlock] using e
                          have := z1.lt
                          rcases hat with k1 | k1
                          · exact z2 (k1.trans (congrArg some e'))
                          · omega
                        · rw [show q' = 0 by omega]; exact HEF.out
                      case measure => simp [intOf] <;> omega
                  · obtain ⟨q, rfl⟩ : ∃ q : Nat, z = (q : Int) := ⟨z.toNat, by omega⟩
                    have HEQ0 := hide (HJ.out.2.2.2.2 q rfl)
                    clear HJ hz
                    have hqn : q < S.length := by omega
                    obtain ⟨g, rfl, _, _⟩ := HFO.out (by omega)
                    have hdq : decide ((0 : Int) ≤ (q : Int)) = true := by simp
                    have c1 := (HZ.out g rfl).1.at1 q hqn
                    rw [from_cons M q S.length hqn, exs_cons, headAt_from] at HEQ0
                    cases hp : (M q).2.1 with
                    | none =>
                      rw [hp, Option.isSome_none] at c1 HEQ0
                      have HEF : Hid (P ++ exs (frOf RL) (vlOf RL) (PV (t + 1)) (from_ M (q + 1) S.length) = TOT) := by have h := HEQ0.out; simp only [Bool.false_eq_true, if_false, List.nil_append] at h; exact h
                      clear HEQ0
                      go_wp2
                      go_roundw
                      case rel => exact ⟨(q : Int) + 1, P, by go_num, by omega, by omega, by omega, HO.out, HZ.out, HBv.out, fun h => by omega, fun q' hq' => by rw [show q' = q + 1 by omega]; exact HEF.out⟩
                      case measure => simp [intOf]; omega
                    | some a =>
                      have c2 := (HZ.out g rfl).1.at2 q hqn
                      have c3 := (HZ.out g rfl).1.at3 q hqn
                      rw [hp] at c1 c2 c3 HEQ0
                      rw [Option.isSome_some] at c1 HEQ0
                      rw [if_pos rfl, ← List.append_assoc] at HEQ0
                      generalize zf (frOf RL) (M q).1 (some a) = ff at *
                      generalize zv (vlOf RL) (PV (t + 1)) (some a) = pp at *
                      have wq1 : IntKind.i64.wrap ((q : Int) + 1) = (q : Int) + 1 := wrapN _ (by omega) (by omega)
                      clear hp
                      by_cases hn : q + 1 < S.length
                      · have hdn : decide ((q : Int) + 1 < (S.length : Int)) = true := by simp; omega
                        have hn2 : (q : Int) + 1 < (S.length : Int) := by omega
                        have c4 := (HZ.out g rfl).1.at0 (q + 1) hn
                        rw [if_pos hn] at HEQ0
                        generalize (M (q + 1)).1 = en at *
                        have HEQ := hide HEQ0.out
                        clear HEQ0
                        by_cases hfe : ff < en
                        · have hdf : decide (ff < en) = true := by simp; exact hfe
                          have HEF : Hid ((P ++ [(ff, en, pp)]) ++ exs (frOf RL) (vlOf RL) (PV (t + 1)) (from_ M (q + 1) S.length) = TOT) := by have h := HEQ.out; rw [ex1, if_pos hfe] at h; exact h
                          clear hfe HEQ
                          go_wp2_with (at_builtin; refine wpList_append_lies _ rfl (.tmp 153) (.tmp 159) 43 rfl (w.heap.size + 1) 48 i48 _ 3 32 Yba.underlying43 H48.out.1 H48.out.2.1 H48.out.2.2.1 H48.out.2.2.2 rfl (by omega) _ P.length (prCells P) rfl (HO.out.alloc _) ⟨wr.heap.size, 0, none⟩ 1 1 [.int .i64 ff, .int .i64 en, .string pp] rfl rfl (World.news_of_block (cs := #[.int .i64 ff, .int .i64 en, .string pp]) (t := 48) (fr := (0, 0)) (heap_alloc_new wr _)) (by simp [Value.oneCell']) (by omega) (by unfold maxLen; omega) (by omega) (by simp; omega) (wr.heap.size + 1) (by simp) ?_; intro gg cap w1 hown hgrow hat hlt)
                          go_roundw
                          case rel =>
                            refine ⟨(q : Int) + 1, P ++ [(ff, en, pp)], by go_num, by omega, by omega, by simp; omega, ?_, fun g' hg' => ?_, below_grown HBv.out ((grown_alloc wr _ _).trans hgrow) HBl.out (fun k hk => (HO.out.lt k hk).1), fun h => by omega, fun q' hq' => ?_⟩
                            · rw [List.length_append, prCells_snoc]
                              exact hown
                            · obtain ⟨z1, z2⟩ := HZ.out g' hg'
                              refine ⟨z1.grow ((grown_alloc wr _ _).trans hgrow) z2, fun e => ?_⟩
                              have e' : gg = g' := by simpa [Value.ownBlock] using e
                              have := z1.lt
                              rcases hat with k1 | k1
                              · exact z2 (k1.trans (congrArg some e'))
                              · omega
                            · rw [show q' = (q + 1) by omega]; exact HEF.out
                          case measure => simp [intOf] <;> omega
                        · have hdf : decide (ff < en) = false := by simp only [decide_eq_false_iff_not]; exact hfe
                          have HEF : Hid (P ++ exs (frOf RL) (vlOf RL) (PV (t + 1)) (from_ M (q + 1) S.length) = TOT) := by have h := HEQ.out; rw [ex1, if_neg hfe, List.append_nil] at h; exact h
                          clear hfe HEQ
                          go_wp2
                          go_roundw
                          case rel => exact ⟨(q : Int) + 1, P, by go_num, by omega, by omega, by omega, HO.out, HZ.out, HBv.out, fun h => by omega, fun q' hq' => by rw [show q' = (q + 1) by omega]; exact HEF.out⟩
                          case measure => simp [intOf] <;> omega
                      · have hdn : decide ((q : Int) + 1 < (S.length : Int)) = false := by simp; omega
                        rw [if_neg hn] at HEQ0
                        have HEQ : Hid ((P ++ ex1 ff pp 4611686018427387904) ++ exs (frOf RL) (vlOf RL) (PV (t + 1)) (from_ M (q + 1) S.length) = TOT) := HEQ0.out
                        clear HEQ0
                        by_cases hfe : ff < 4611686018427387904
                        · have hdf : decide (ff < 4611686018427387904) = true := by simp; exact hfe
                          have HEF : Hid ((P ++ [(ff, 4611686018427387904, pp)]) ++ exs (frOf RL) (vlOf RL) (PV (t + 1)) (from_ M (q + 1) S.length) = TOT) := by have h := HEQ.out; rw [ex1, if_pos hfe] at h; exact h
                          clear hfe HEQ
                          go_wp2_with (at_builtin; refine wpList_append_lies _ rfl (.tmp 153) (.tmp 159) 43 rfl (w.heap.size + 1) 48 i48 _ 3 32 Yba.underlying43 H48.out.1 H48.out.2.1 H48.out.2.2.1 H48.out.2.2.2 rfl (by omega) _ P.length (prCells P) rfl (HO.out.alloc _) ⟨wr.heap.size, 0, none⟩ 1 1 [.int .i64 ff, .int .i64 4611686018427387904, .string pp] rfl rfl (World.news_of_block (cs := #[.int .i64 ff, .int .i64 4611686018427387904, .string pp]) (t := 48) (fr := (0, 0)) (heap_alloc_new wr _)) (by simp [Value.oneCell']) (by omega) (by unfold maxLen; omega) (by omega) (by simp; omega) (wr.heap.size + 1) (by simp) ?_; intro gg cap w1 hown hgrow hat hlt)
                          go_roundw
                          case rel =>
                            refine ⟨(q : Int) + 1, P ++ [(ff, 4611686018427387904, pp)], by go_num, by omega, by omega, by simp; omega, ?_, fun g' hg' => ?_, below_grown HBv.out ((grown_alloc wr _ _).trans hgrow) HBl.out (fun k hk => (HO.out.lt k hk).1), fun h => by omega, fun q' hq' => ?_⟩
                            · rw [List.length_append, prCells_snoc]
                              exact hown
                            · obtain ⟨z1, z2⟩ := HZ.out g' hg'
                              refine ⟨z1.grow ((grown_alloc wr _ _).trans hgrow) z2, fun e => ?_⟩
                              have e' : gg = g' := by simpa [Value.ownBlock] using e
                              have := z1.lt
                              rcases hat with k1 | k1
                              · exact z2 (k1.trans (congrArg some e'))
                              · omega
                            · rw [show q' = (q + 1) by omega]; exact HEF.out
                          case measure => simp [intOf] <;> omega
                        · have hdf : decide (ff < 4611686018427387904) = false := by simp only [decide_eq_false_iff_not]; exact hfe
                          have HEF : Hid (P ++ exs (frOf RL) (vlOf RL) (PV (t + 1)) (from_ M (q + 1) S.length) = TOT) := by have h := HEQ.out; rw [ex1, if_neg hfe, List.append_nil] at h; exact h
                          clear hfe HEQ
                          go_wp2
                          go_roundw
                          case rel => exact ⟨(q : Int) + 1, P, by go_num, by omega, by omega, by omega, HO.out, HZ.out, HBv.out, fun h => by omega, fun q' hq' => by rw [show q' = (q + 1) by omega]; exact HEF.out⟩
                          case measure => simp [intOf] <;> omega
                · have hd : decide (z < (S.length : Int)) = false := by simp; omega
                  have HEND : Hid (P = TOT) := by
                    have h := HJ.out.2.2.2.2 S.length (by omega)
                    rw [from_end] at h
                    rw [← h]
                    simp [exs, hide]
                  clear HJ
                  go_wp2
                  go_ret
                  refine ⟨_, rfl, P, HO.out.mono (by omega), ?_, HWw.out.trans (HBv.out.mono (by omega))⟩
                  rw [HSE.out]
                  exact ⟨M, HSH.out.1, HSH.out.2, HEND.out.trans HTOT.out⟩
end Go.Proofs.Ybulkoc
