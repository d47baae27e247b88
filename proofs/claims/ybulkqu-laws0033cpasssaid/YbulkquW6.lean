import Derived.Test.YbulkquW5
namespace Go.Proofs.Ybulkqu
set_option linter.unusedVariables false
open Go.RowKit

set_option maxRecDepth 100000 in
set_option maxHeartbeats 4000000 in
theorem law_any (next base y : Int) (gs : List Int) (ga : Option Addr) (n gcap : Nat) (w : World) (hb0 : 0 ≤ base) (hb1 : base ≤ 18446744073709551615) (hn : n ≤ 1024)
    (hg : 0 < n → ∃ gb go, ga = some ⟨gb, go, none⟩ ∧ gb < w.heap.size ∧ ∀ j, j < n → w.cell? ⟨gb, go + j, none⟩ = some (.int .u8 (gs.getD j 0))) (hgs : ∀ j, 0 ≤ gs.getD j 0 ∧ gs.getD j 0 < 256) :
    Calls Yba.prog 3 #[.int .u64 next, .int .u64 base, .slice ga n gcap, .int .u64 y] w fun e w' => e = .returned (.bool true) ∧ Below w.heap.size w w' := by
  obtain ⟨i0, hi0, hz0, hz1, hz2⟩ := info_parts Yba.info30
  have hd : decide ((1024 : Int) < (n : Int)) = false := by simp; omega
  have HC := hide (build_any base gs ga n gcap w hb0 hb1 hn hg hgs)
  clear hg hgs
  go_enter Yba.func3, Yba.ntmps3
  go_wp2_with fail
  refine HC.out.mono ?_
  rintro e w1 ⟨Q, hQ, hinc, rfl, hown, hb⟩
  obtain ⟨hS, hBz⟩ := Seqs.of_owns hown
  have HI := hide hinc
  have HS := hide hS
  have HB := hide hb
  clear HC hinc hS hb hown
  generalize hm : Q.length = m at *
  have HM := hide hm
  clear hm
  have hby : i0.bytes * m ≤ 281474976710656 := by rw [hz2]; omega
  have hml : m ≤ maxLen := by unfold maxLen; omega
  go_wp2_with (at_make; refine wpList_make_full w1 rfl (.tmp 31) (.tmp 31) 26 rfl w1.heap.size 30 i0 _ 4 Yba.underlying26 hi0 hz0 hz1 .i64 .i64 m m m rfl rfl rfl rfl hby hml (Nat.le_refl _) ?_; intro w2 hown2 hgrow2)
  have hL := Laying.of_owns (lawA Q) hown2
  have hb2 : Below w1.heap.size w1 w2 := (Below.refl _ w1).grown hgrow2 (Nat.le_refl _) (fun k hk => by cases hk)
  have HL := hide hL
  have HB2 := hide hb2
  clear hown2 hgrow2 hL hb2
  generalize hH : w1.heap.size = H at *
  have HHz := hide hH
  clear hH
  go_loopw [35] (fun iv wr => ∃ k : Nat, iv = .int .i64 k ∧ k ≤ m ∧ Laying wr H m k (lawA Q) ∧ Below H w1 wr) (fun iv _ => m - (intOf iv).toNat)
  case atStart => exact ⟨0, rfl, Nat.zero_le _, HL.out, HB2.out⟩
  case round =>
    obtain ⟨k, rfl, hk, hL, hb⟩ := hrel
    have HLk := hide hL
    have HBk := hide hb
    by_cases hlt : k < m
    · have hcell : wr.cell? ⟨w.heap.size, k, none⟩ = some (.int .u64 (Q.getD k 0)) := (hb.cell (p := ⟨w.heap.size, k, none⟩) hBz).trans (HS.out k (by rw [HM.out]; exact hlt))
      obtain ⟨x0, hx0⟩ := Option.isSome_iff_exists.1 (hL.there (k * 4) (by omega))
      obtain ⟨x1, hx1⟩ := Option.isSome_iff_exists.1 (hL.there (k * 4 + 1) (by omega))
      obtain ⟨x2, hx2⟩ := Option.isSome_iff_exists.1 (hL.there (k * 4 + 2) (by omega))
      obtain ⟨x3, hx3⟩ := Option.isSome_iff_exists.1 (hL.there (k * 4 + 3) (by omega))
      have f0 := hL.free (k * 4)
      have f1 := hL.free (k * 4 + 1)
      have f2 := hL.free (k * 4 + 2)
      have f3 := hL.free (k * 4 + 3)
      clear hL hb
      go_wp2
      go_roundw
      case rel =>
        exact ⟨k + 1, by go_num, by omega, HLk.out.step hlt, (((HBk.out.setCell (p := ⟨H, k * 4, none⟩) (Nat.le_refl H) _).setCell (p := ⟨H, k * 4 + 1, none⟩) (Nat.le_refl H) _).setCell (p := ⟨H, k * 4 + 2, none⟩) (Nat.le_refl H) _).setCell (p := ⟨H, k * 4 + 3, none⟩) (Nat.le_refl H) _⟩
      case measure => simp [intOf]; omega
    · obtain rfl : k = m := by omega
      have hHD : H < wr.heap.size := hL.lt
      have hbS := (Below.refl _ wr).alloc (Nat.le_refl _) (.cells #[.int .u64 next, .slice (some ⟨H, 0, none⟩) k k] 33)
      have rS : Row (wr.alloc (.cells #[.int .u64 next, .slice (some ⟨H, 0, none⟩) k k] 33)) wr.heap.size 33 [.int .u64 next, .slice (some ⟨H, 0, none⟩) k k] := Row.new wr 33 _
      have zS : (wr.alloc (.cells #[.int .u64 next, .slice (some ⟨H, 0, none⟩) k k] 33)).heap.size = wr.heap.size + 1 := by simp
      have hHo := hL.held.below hbS hHD
      have hFr : ∀ o, (wr.alloc (.cells #[.int .u64 next, .slice (some ⟨H, 0, none⟩) k k] 33)).frozen? ⟨H, o, none⟩ = false := fun o => (hbS.frozen (p := ⟨H, o, none⟩) hHD).trans (hL.free o)
      have hSq : Seqs (wr.alloc (.cells #[.int .u64 next, .slice (some ⟨H, 0, none⟩) k k] 33)) w.heap.size Q := (HS.out.below hb hBz).below hbS (Nat.lt_trans hBz hHD)
      have hbAll : Below w.heap.size w (wr.alloc (.cells #[.int .u64 next, .slice (some ⟨H, 0, none⟩) k k] 33)) := (HB.out.trans (hb.mono (Nat.le_of_lt hBz))).trans (hbS.mono (by omega))
      have HRS := hide rS
      have HZS := hide zS
      have HHo := hide hHo
      have HFr := hide hFr
      have HSq := hide hSq
      have HBA := hide hbAll
      clear HLk HBk hL hb hbS rS zS hHo hFr hSq hbAll HS HB HL HB2
      go_wp2_with fail
      generalize hW3 : wr.alloc (.cells #[.int .u64 next, .slice (some ⟨H, 0, none⟩) k k] 33) = w3 at *
      clear hW3
      generalize hD : wr.heap.size = D at *
      clear hD
      go_loop [14, 56] (fun wv iv => ∃ t : Nat, t ≤ k ∧ iv = .int .i64 t ∧ wv = .int .i64 ((Q.take t).countP (fun q => decide (q ≤ y)) : Nat)) (fun _ iv => k - (intOf iv).toNat)
      case atStart => exact ⟨0, Nat.zero_le _, rfl, rfl⟩
      case round =>
        obtain ⟨t, ht, rfl, rfl⟩ := hrel
        have hcl : (Q.take t).countP (fun q => decide (q ≤ y)) ≤ t := Nat.le_trans List.countP_le_length (List.length_take_le _ _)
        by_cases hlt2 : t < k
        · have hcell := HSq.out t (by rw [HM.out]; exact hlt2)
          have hst : (Q.take (t + 1)).countP (fun q => decide (q ≤ y)) = (Q.take t).countP (fun q => decide (q ≤ y)) + if Q.getD t 0 ≤ y then 1 else 0 := by
            rw [List.take_succ_eq_append_getElem (by rw [HM.out]; exact hlt2), List.countP_append]
            simp [List.countP_cons, List.getD, List.getElem?_eq_getElem (show t < Q.length by rw [HM.out]; exact hlt2)]
          have HST := hide hst
          clear hst
          obtain ⟨qv, hqv⟩ : ∃ qv, qv = Q.getD t 0 := ⟨_, rfl⟩
          rw [← hqv] at hcell
          have HQV := hide hqv
          clear hqv
          by_cases hle : qv ≤ y
          · go_wp2
            go_round
            case rel => exact ⟨t + 1, by omega, by go_num, by rw [HST.out, ← HQV.out, if_pos hle]; go_num⟩
            case measure => simp [intOf]; omega
          · go_wp2
            go_round
            case rel => exact ⟨t + 1, by omega, by go_num, by rw [HST.out, ← HQV.out, if_neg hle]; go_num⟩
            case measure => simp [intOf]; omega
        · obtain rfl : t = k := by omega
          rw [List.take_of_length_le (by rw [HM.out]; exact Nat.le_refl _)]
          have hbE := (Below.refl _ w3).alloc (Nat.le_refl _) (.cells #[.int .i64 0, .int .u64 y, .slice none 0 0] 28)
          have zE := HZS.out
          have rE : Row (w3.alloc (.cells #[.int .i64 0, .int .u64 y, .slice none 0 0] 28)) w3.heap.size 28 [.int .i64 0, .int .u64 y, .slice none 0 0] := Row.new w3 28 _
          have rD := HRS.out.below hbE (by omega)
          have hHo := HHo.out.below hbE (by omega)
          have hFr : ∀ o, (w3.alloc (.cells #[.int .i64 0, .int .u64 y, .slice none 0 0] 28)).frozen? ⟨H, o, none⟩ = false := fun o => (hbE.frozen (p := ⟨H, o, none⟩) (by show H < w3.heap.size; omega)).trans (HFr.out o)
          have hSq := HSq.out.below hbE (by omega)
          have hsort : ∀ a b, a < b → b < t → (lawA Q a).2.1 < (lawA Q b).2.1 := fun a b hab hbt => by
            have := List.pairwise_iff_getElem.1 HI.out.1 a b (by rw [HM.out]; omega) (by rw [HM.out]; omega) hab
            simpa [lawA, List.getD, List.getElem?_eq_getElem (show a < Q.length by rw [HM.out]; omega), List.getElem?_eq_getElem (show b < Q.length by rw [HM.out]; omega)] using this
          have HP := hide (pass_any D H t t (lawA Q) next y _ (by omega) (Nat.le_refl _) (by omega) hHD rD hHo hFr hsort (by have := hbE.size; omega))
          have HRE := hide rE
          have HSq4 := hide hSq
          have HSO := hide hsort
          have HBA4 : Hid (Below w.heap.size w (w3.alloc (.cells #[.int .i64 0, .int .u64 y, .slice none 0 0] 28))) := HBA.out.trans (hbE.mono (by omega))
          have HZ4 : Hid ((w3.alloc (.cells #[.int .i64 0, .int .u64 y, .slice none 0 0] 28)).heap.size = D + 2) := by show _ = _; simp; omega
          clear rE rD hHo hFr hSq hsort hbE HSq HFr HHo HRS
          go_wp2_with fail
          generalize w3.alloc (.cells #[.int .i64 0, .int .u64 y, .slice none 0 0] 28) = w4 at *
          rw [zE] at HRE
          refine HP.out.mono ?_
          rintro e w5 ⟨j, hj, hlo, hhi, rfl, rD, hHo, hFr, hT⟩
          have hcnt := cnt_of Q y j (by rw [HM.out]; exact hj) (fun a ha => hlo a ha) (fun a h1 h2 => hhi a h1 (by rw [HM.out] at h2; exact h2))
          rw [hcnt]
          have hBH : w.heap.size < H := hBz
          have rE : Row w5 (D + 1) 28 [.int .i64 0, .int .u64 y, .slice none 0 0] := (hT.block (D + 1) (by rw [HZ4.out]; omega) (by omega) (by omega)).trans HRE.out
          have hSq : Seqs w5 w.heap.size Q := HSq4.out.below (hT.below (B := H) (Nat.le_refl _) (by omega) (by rw [HZ4.out]; omega)) hBH
          have hB5 : Below w.heap.size w w5 := HBA4.out.trans (hT.below (by omega) (by omega) (by rw [HZ4.out]; omega))
          have hz5 : D + 2 ≤ w5.heap.size := by have := hT.size; have := HZ4.out; omega
          have d0 := rD.cell (o := 0) rfl
          have d1 := rD.cell (o := 1) rfl
          have HRD := hide rD
          have HHo := hide hHo
          have HFr := hide hFr
          have HRE5 := hide rE
          have HSq5 := hide hSq
          have HB5 := hide hB5
          have HHI := hide hhi
          clear HP hlo hhi rD hHo hFr hT hcnt rE hSq hB5 HRE HSq4 HBA4 HZ4 HBA
          have hjt : ((t : Int) - (j : Int)) = ((t - j : Nat) : Int) := by omega
          have hlen : (((t - j : Nat) : Int) != (t : Int) - (j : Int)) = false := by rw [hjt]; simp
          clear hjt
          go_wp2_with fail
          go_loopw [96] (fun iv wx => ∃ k : Nat, iv = .int .i64 k ∧ k ≤ t - j ∧ Below w5.heap.size w5 wx) (fun iv _ => (t - j) - (intOf iv).toNat)
          case atStart => exact ⟨0, rfl, Nat.zero_le _, Below.refl _ _⟩
          case round =>
            obtain ⟨k, rfl, hk3, hb⟩ := hrel
            have HBx := hide hb
            have e0 := (HRD.out.below hb (by omega)).cell (o := 0) rfl
            have e1 := (HRD.out.below hb (by omega)).cell (o := 1) rfl
            by_cases hlt3 : k < t - j
            · have hjk : j + k < t := by omega
              obtain ⟨c0, c1, c2, c3⟩ := (HHo.out.below hb (by omega)) k hlt3
              have s0 := (HSq5.out.below hb (by omega)) (j + k) (by rw [HM.out]; exact hjk)
              have hgt := HHI.out (j + k) (by omega) hjk
              simp only [lawA] at c0 c1 c3 hgt
              obtain ⟨qv, hqv⟩ : ∃ qv, qv = Q.getD (j + k) 0 := ⟨_, rfl⟩
              rw [← hqv] at c1 s0 hgt
              rw [show ((j + k : Nat) : Int) = (j : Int) + (k : Int) by omega] at c0 c3
              have hdq : decide (qv ≤ y) = false := by simp; exact hgt
              clear hqv hgt hb hlt hlt2 hk ht hcl zE d0 d1 hlen
              have hbN := (Below.refl _ wr).alloc (Nat.le_refl _) (.cells #[.int .i64 ((j : Int) + k), .int .u64 qv, .slice none 0 0, .int .u64 ((j : Int) + k)] 30)
              have s1 : (wr.alloc (.cells #[.int .i64 ((j : Int) + k), .int .u64 qv, .slice none 0 0, .int .u64 ((j : Int) + k)] 30)).cell? ⟨w.heap.size, j + k, none⟩ = some (.int .u64 qv) := (hbN.cell (p := ⟨w.heap.size, j + k, none⟩) (by show w.heap.size < wr.heap.size; have := HBx.out.size; omega)).trans s0
              have hidx : (j : Int) + (k : Int) < (t : Int) := by omega
              have hidx0 : (0 : Int) ≤ (j : Int) + (k : Int) := by omega
              have HBN := hide hbN
              clear hbN
              go_wp2_with fail
              go_quiet (fail)
              go_wp2
              go_roundw
              case rel => exact ⟨k + 1, by go_num, by omega, below_drewN (HBx.out.trans (HBN.out.mono HBx.out.size)) _⟩
              case measure => simp [intOf]; omega
            · obtain ⟨q0, hq0⟩ : ∃ q0 : Nat, q0 = t - j := ⟨_, rfl⟩
              have hR := HRD.out.below hb (by omega)
              have rE := (HRE5.out.below hb (by omega))
              have hHo := HHo.out.below hb (by omega)
              have hFr : ∀ o, wr.frozen? ⟨H, o, none⟩ = false := fun o => (hb.frozen (p := ⟨H, o, none⟩) (by show H < w5.heap.size; omega)).trans (HFr.out o)
              have HP := hide (pass_any D H (t - j) t (fun a => lawA Q (j + a)) (IntKind.u64.wrap (y + 1)) y wr (by omega) (by omega) (by omega) hHD hR hHo hFr (fun a b hab hbt => HSO.out _ _ (by omega) (by omega)) (by have := hb.size; omega))
              have r0 := rE.cell (o := 0) rfl
              have r1 := rE.cell (o := 1) rfl
              have r2 := rE.cell (o := 2) rfl
              have hBx : Below w.heap.size w wr := HB5.out.trans (hb.mono (by omega))
              have hsz : w.heap.size ≤ wr.heap.size := hBx.size
              have HBW := hide hBx
              have hszD : D + 2 ≤ wr.heap.size := by have := hb.size; omega
              clear hq0 hR rE hHo hFr hb hBx
              go_wp2_with fail
              refine HP.out.mono ?_
              rintro e w6 ⟨j2, hj2, hlo, hhi, rfl, rD, hHo6, hFr6, hT⟩
              have hj0 : j2 = 0 := by
                rcases Nat.eq_zero_or_pos j2 with h | h
                · exact h
                · have h1 := hlo 0 h
                  have h2 := HHI.out (j + 0) (by omega) (by omega)
                  omega
              subst hj0
              have d0 := rD.cell (o := 0) rfl
              have d1 := rD.cell (o := 1) rfl
              rw [Nat.sub_zero] at d1
              have HB6 : Hid (Below w.heap.size w w6) := HBW.out.trans (hT.below (by omega) (by omega) (by omega))
              clear HP hlo hhi rD hHo6 hFr6 hT
              go_wp2
              go_ret
              exact ⟨rfl, HB6.out⟩
end Go.Proofs.Ybulkqu
