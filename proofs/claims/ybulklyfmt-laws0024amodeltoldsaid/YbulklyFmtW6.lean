import Derived.Test.YbulklyFmtW5
import Derived.Test.YbulklyFmtIs
namespace Go.Proofs.YbulklyFmt
set_option linter.unusedVariables false
open Go.RowKit Go.Extern.Stop Go.Stop Go.Extern

/-- What the law has gathered behind j of the four bytes. -/
def wantTo (zs : List Int) (p : Nat) : Nat → Int
  | 0 => 0
  | 1 => zs.getD p 0 * 16777216
  | 2 => zs.getD p 0 * 16777216 + zs.getD (p + 1) 0 * 65536
  | 3 => zs.getD p 0 * 16777216 + zs.getD (p + 1) 0 * 65536 + zs.getD (p + 2) 0 * 256
  | _ => be4 zs p

theorem want_end (zs : List Int) (p m : Nat) (h : m = 4 ∨ (m < 4 ∧ p + m = zs.length)) : wantTo zs p m = be4 zs p := by
  rcases h with rfl | ⟨h1, h2⟩
  · rfl
  · have z : ∀ j, m ≤ j → zs.getD (p + j) 0 = 0 := fun j hj => by simp [List.getD, List.getElem?_eq_none (show zs.length ≤ p + j by omega)]
    have z3 := z 3 (by omega)
    have hm : m = 0 ∨ m = 1 ∨ m = 2 ∨ m = 3 := by omega
    rcases hm with rfl | rfl | rfl | rfl
    · have z0 := z 0 (by omega); have z1 := z 1 (by omega); have z2 := z 2 (by omega)
      simp only [wantTo, be4]; simp only [Nat.add_zero] at z0; omega
    · have z1 := z 1 (by omega); have z2 := z 2 (by omega)
      simp only [wantTo, be4]; omega
    · have z2 := z 2 (by omega)
      simp only [wantTo, be4]; omega
    · simp only [wantTo, be4]; omega

theorem or_low (x y m i : Nat) (hm : m = 2 ^ i) (hy : y < m) (hx : x * m + y < 2 ^ 32) : bits BinOp.or IntKind.u32 ((x * m : Nat) : Int) (y : Int) = ((x * m + y : Nat) : Int) := by
  rw [u32_or_nat _ _ (by omega) (by omega), Nat.or_comm, or_mul y x i m hm hy]

theorem want0 (zs : List Int) (p : Nat) (hy : Bytes zs) : bits BinOp.or IntKind.u32 (wantTo zs p 0) (zs.getD p 0 * 16777216) = wantTo zs p 1 := by
  obtain ⟨h0, h1⟩ := hy p
  obtain ⟨n, hn⟩ := Int.eq_ofNat_of_zero_le h0
  simp only [wantTo, hn]
  rw [show ((n : Int) * 16777216) = ((n * 16777216 : Nat) : Int) by omega]
  exact (u32_or_nat 0 (n * 16777216) (by omega) (by omega)).trans (by rw [Nat.zero_or])
theorem want1 (zs : List Int) (p : Nat) (hy : Bytes zs) : bits BinOp.or IntKind.u32 (wantTo zs p 1) (zs.getD (p + 1) 0 * 65536) = wantTo zs p 2 := by
  obtain ⟨h0, h1⟩ := hy p
  obtain ⟨n, hn⟩ := Int.eq_ofNat_of_zero_le h0
  obtain ⟨k0, k1⟩ := hy (p + 1)
  obtain ⟨m, hm⟩ := Int.eq_ofNat_of_zero_le k0
  simp only [wantTo, hn, hm]
  rw [show ((n : Int) * 16777216) = ((n * 16777216 : Nat) : Int) by omega, show ((m : Int) * 65536) = ((m * 65536 : Nat) : Int) by omega, or_low n (m * 65536) 16777216 24 (by decide) (by omega) (by omega)]
  omega
theorem want2 (zs : List Int) (p : Nat) (hy : Bytes zs) : bits BinOp.or IntKind.u32 (wantTo zs p 2) (zs.getD (p + 2) 0 * 256) = wantTo zs p 3 := by
  obtain ⟨h0, h1⟩ := hy p
  obtain ⟨n, hn⟩ := Int.eq_ofNat_of_zero_le h0
  obtain ⟨k0, k1⟩ := hy (p + 1)
  obtain ⟨m, hm⟩ := Int.eq_ofNat_of_zero_le k0
  obtain ⟨l0, l1⟩ := hy (p + 2)
  obtain ⟨l, hl⟩ := Int.eq_ofNat_of_zero_le l0
  simp only [wantTo, hn, hm, hl]
  rw [show ((n : Int) * 16777216 + (m : Int) * 65536) = (((n * 256 + m) * 65536 : Nat) : Int) by omega, show ((l : Int) * 256) = ((l * 256 : Nat) : Int) by omega, or_low (n * 256 + m) (l * 256) 65536 16 (by decide) (by omega) (by omega)]
  omega
theorem want3 (zs : List Int) (p : Nat) (hy : Bytes zs) : bits BinOp.or IntKind.u32 (wantTo zs p 3) (zs.getD (p + 3) 0) = wantTo zs p 4 := by
  obtain ⟨h0, h1⟩ := hy p
  obtain ⟨n, hn⟩ := Int.eq_ofNat_of_zero_le h0
  obtain ⟨k0, k1⟩ := hy (p + 1)
  obtain ⟨m, hm⟩ := Int.eq_ofNat_of_zero_le k0
  obtain ⟨l0, l1⟩ := hy (p + 2)
  obtain ⟨l, hl⟩ := Int.eq_ofNat_of_zero_le l0
  obtain ⟨q0, q1⟩ := hy (p + 3)
  obtain ⟨q, hq⟩ := Int.eq_ofNat_of_zero_le q0
  simp only [wantTo, be4, hn, hm, hl, hq]
  rw [show ((n : Int) * 16777216 + (m : Int) * 65536 + (l : Int) * 256) = ((((n * 256 + m) * 256 + l) * 256 : Nat) : Int) by omega, or_low ((n * 256 + m) * 256 + l) q 256 8 (by decide) (by omega) (by omega)]
  omega

/-- What holds of the decoder in the law's loop. -/
def St (wr : World) (B : Nat) (sl : Value) (len p : Nat) (fl : Bool) (a : Addr) : Prop :=
  (fl = false ∧ p ≤ len ∧ Dec wr B sl p (-1) .nilIface) ∨
  (fl = true ∧ p = len ∧ ∃ k pr', Dec wr B sl len pr' (.iface 95 (.pointer (some ⟨k, 0, none⟩))) ∧ B < k ∧ wr.cell? ⟨k, 1, none⟩ = some (.iface 69 (.pointer (some a))) ∧ k < wr.heap.size)

set_option maxHeartbeats 4000000 in
theorem modelA_any (F : Interp) (sl : Option Addr) (len cap : Nat) (q : Int) (zs : List Int) (a : Addr) (s0 : ByteArray) (w : World) (hF : F.answers w.tape) (hq0 : 0 ≤ q) (hq1 : q ≤ 255)
    (hS : Src w w.heap.size sl len cap zs) (hG : Glob w w.heap.size a s0) (hy : Bytes zs) :
    Calls Ybaf.prog 3 #[.slice sl len cap, .int .u8 q] w fun e w' => e = .returned (.bool true) ∧ Below w.heap.size w w' := by
  have hl := hS.hsmall
  have hdl : decide ((1024 : Int) < (len : Int)) = false := by simp; omega
  have HS := hide hS
  have HG := hide hG
  have HY := hide hy
  clear hS hG hy
  go_enter Ybaf.func3, Ybaf.ntmps3
  go_wp2_with fail
  refine (newDecoder_any sl len cap w).mono ?_
  rintro e w1 ⟨rfl, rfl⟩
  go_wp2_with fail
  obtain ⟨rd, hrd, hrl⟩ : ∃ rd : Nat, q % 20 = rd ∧ rd < 20 := ⟨(q % 20).toNat, by omega, by omega⟩
  rw [hrd]
  clear hrd
  have hb1 := (Below.refl _ w).alloc (Nat.le_refl _) (.cells #[.slice sl len cap, .int .i64 0, .int .i64 (-1), .nilIface] 35)
  have D1 : Dec (w.alloc (.cells #[.slice sl len cap, .int .i64 0, .int .i64 (-1), .nilIface] 35)) w.heap.size (.slice sl len cap) (0 : Nat) (-1) .nilIface := by
    show (w.heap.push _)[w.heap.size]? = _
    simp
  have HD1 := hide D1
  have HB1 := hide hb1
  clear D1 hb1
  generalize hB : w.heap.size = B at *
  have HBz := hide hB
  clear hB
  go_loopw [7, 8, 9] (fun pv fv i wr => ∃ (k p : Nat) (fl : Bool), pv = .int .i64 p ∧ fv = .bool fl ∧ i = .int .i64 k ∧ k ≤ rd ∧ St wr B (.slice sl len cap) len p fl a ∧ Below B w wr) (fun _ _ i _ => rd - (intOf i).toNat)
  case atStart => exact ⟨0, 0, false, rfl, rfl, rfl, Nat.zero_le _, Or.inl ⟨rfl, Nat.zero_le _, HD1.out⟩, HB1.out⟩
  case round =>
    obtain ⟨k, p, fl, rfl, rfl, rfl, hk, hst, hb⟩ := hrel
    by_cases hlt : k < rd
    · rcases hst with ⟨rfl, hp, hD⟩ | ⟨rfl, rfl, kk, pr', hD, hkk, hc1, hkz⟩
      · have HC := hide (u32_read F B sl len cap p (-1) zs a s0 _ (by rw [hb.tape]; exact hF) hD hp (HS.out.below hb) (HG.out.below hb) HY.out)
        have HB := hide hb
        clear hD hb
        go_wp2_with fail
        refine HC.out.mono ?_
        rintro e w' ⟨rfl, h1, h3⟩
        have HB3 : Hid (Below B w w') := HB.out.trans h3
        have HO := hide h1
        clear h1 h3
        by_cases hfit : p + 4 ≤ len
        · obtain ⟨sb, so, rfl, hsb, hsrc⟩ := (HS.out.below HB3.out).hcells (by omega)
          have hd4 : decide ((len : Int) - p < 4) = false := by simp; omega
          have HR := hide hsrc
          clear hsrc
          go_wp2_with fail
          go_loop [11, 14] (fun wv jv => ∃ j : Nat, j ≤ 4 ∧ wv = .int .u32 (wantTo zs p j) ∧ jv = .int .i64 j) (fun _ jv => 4 - (intOf jv).toNat)
          case atStart => exact ⟨0, Nat.zero_le _, rfl, rfl⟩
          case round =>
            obtain ⟨j, hj, rfl, rfl⟩ := hrel
            by_cases hj4 : j < 4
            · have hj4' : j = 0 ∨ j = 1 ∨ j = 2 ∨ j = 3 := by omega
              rcases hj4' with rfl | rfl | rfl | rfl
              · obtain ⟨bj, hbj⟩ : ∃ bj, bj = zs.getD p 0 := ⟨_, rfl⟩
                have hc := HR.out p (by omega)
                have hy0 := (HY.out p).1
                have hy1 := (HY.out p).2
                rw [← hbj] at hc hy0 hy1
                have hbits := want0 zs p HY.out
                rw [← hbj] at hbits
                clear hbj
                go_wp2
                go_round
                case rel => exact ⟨0 + 1, by omega, by rw [← hbits], by go_num⟩
                case measure => simp [intOf]
              · obtain ⟨bj, hbj⟩ : ∃ bj, bj = zs.getD (p + 1) 0 := ⟨_, rfl⟩
                have hc := HR.out (p + 1) (by omega)
                have hy0 := (HY.out (p + 1)).1
                have hy1 := (HY.out (p + 1)).2
                rw [← hbj] at hc hy0 hy1
                have hbits := want1 zs p HY.out
                rw [← hbj] at hbits
                clear hbj
                go_wp2
                go_round
                case rel => exact ⟨1 + 1, by omega, by rw [← hbits], by go_num⟩
                case measure => simp [intOf]
              · obtain ⟨bj, hbj⟩ : ∃ bj, bj = zs.getD (p + 2) 0 := ⟨_, rfl⟩
                have hc := HR.out (p + 2) (by omega)
                have hy0 := (HY.out (p + 2)).1
                have hy1 := (HY.out (p + 2)).2
                rw [← hbj] at hc hy0 hy1
                have hbits := want2 zs p HY.out
                rw [← hbj] at hbits
                clear hbj
                go_wp2
                go_round
                case rel => exact ⟨2 + 1, by omega, by rw [← hbits], by go_num⟩
                case measure => simp [intOf]
              · obtain ⟨bj, hbj⟩ : ∃ bj, bj = zs.getD (p + 3) 0 := ⟨_, rfl⟩
                have hc := HR.out (p + 3) (by omega)
                have hy0 := (HY.out (p + 3)).1
                have hy1 := (HY.out (p + 3)).2
                rw [← hbj] at hc hy0 hy1
                have hbits := want3 zs p HY.out
                rw [← hbj] at hbits
                clear hbj
                go_wp2
                go_round
                case rel => exact ⟨3 + 1, by omega, by rw [← hbits], by go_num⟩
                case measure => simp [intOf]
            · obtain rfl : j = 4 := by omega
              rw [show wantTo zs p 4 = be4 zs p from rfl]
              have HD4 : Hid (Dec w' B (.slice (some ⟨sb, so, none⟩) len cap) (p + 4 : Nat) (-1) .nilIface) := by
                rcases HO.out with ⟨_, h⟩ | ⟨h, _⟩
                · exact h
                · omega
              go_wp2
              go_roundw
              case rel => exact ⟨k + 1, p + 4, false, by go_num, rfl, by go_num, by omega, Or.inl ⟨rfl, hfit, HD4.out⟩, HB3.out⟩
              case measure => simp [intOf]; omega
        · obtain ⟨m, hm⟩ : ∃ m : Nat, (len : Int) - p = m := ⟨len - p, by omega⟩
          have hm4 : m < 4 := by omega
          have hpm : p + m = len := by omega
          have hd4 : decide ((m : Int) < 4) = true := by simp; omega
          have hw := want_end zs p m (Or.inr ⟨hm4, by rw [HS.out.hsize]; exact hpm⟩)
          have HW := hide hw
          have HM := hide hm
          have HPM := hide hpm
          clear hw hpm
          have HS3 := hide (HS.out.below HB3.out).hcells
          have hex : ∃ kk pr', Dec w' B (.slice sl len cap) len pr' (.iface 95 (.pointer (some ⟨kk, 0, none⟩))) ∧ B < kk ∧ w'.cell? ⟨kk, 1, none⟩ = some (.iface 69 (.pointer (some a))) ∧ kk < w'.heap.size := by
            rcases HO.out with ⟨h, _⟩ | ⟨_, h⟩
            · omega
            · exact h
          have HX := hide hex
          clear hex
          go_wp2_with fail
          go_loop [11, 14] (fun wv jv => ∃ j : Nat, j ≤ m ∧ wv = .int .u32 (wantTo zs p j) ∧ jv = .int .i64 j) (fun _ jv => m - (intOf jv).toNat)
          case atStart => exact ⟨0, Nat.zero_le _, rfl, rfl⟩
          case round =>
            obtain ⟨j, hj, rfl, rfl⟩ := hrel
            by_cases hj4 : j < m
            · obtain ⟨sb, so, rfl, hsb, hsrc⟩ := HS3.out (by have := HPM.out; omega)
              have HR := hide hsrc
              clear hsrc
              have hpl : p + j < len := by have := HPM.out; omega
              have hj4' : j = 0 ∨ j = 1 ∨ j = 2 := by omega
              rcases hj4' with rfl | rfl | rfl
              · obtain ⟨bj, hbj⟩ : ∃ bj, bj = zs.getD p 0 := ⟨_, rfl⟩
                have hc := HR.out p (by omega)
                have hy0 := (HY.out p).1
                have hy1 := (HY.out p).2
                rw [← hbj] at hc hy0 hy1
                have hbits := want0 zs p HY.out
                rw [← hbj] at hbits
                clear hbj
                go_wp2
                go_round
                case rel => exact ⟨0 + 1, by omega, by rw [← hbits], by go_num⟩
                case measure => simp [intOf]; omega
              · obtain ⟨bj, hbj⟩ : ∃ bj, bj = zs.getD (p + 1) 0 := ⟨_, rfl⟩
                have hc := HR.out (p + 1) (by omega)
                have hy0 := (HY.out (p + 1)).1
                have hy1 := (HY.out (p + 1)).2
                rw [← hbj] at hc hy0 hy1
                have hbits := want1 zs p HY.out
                rw [← hbj] at hbits
                clear hbj
                go_wp2
                go_round
                case rel => exact ⟨1 + 1, by omega, by rw [← hbits], by go_num⟩
                case measure => simp [intOf]; omega
              · obtain ⟨bj, hbj⟩ : ∃ bj, bj = zs.getD (p + 2) 0 := ⟨_, rfl⟩
                have hc := HR.out (p + 2) (by omega)
                have hy0 := (HY.out (p + 2)).1
                have hy1 := (HY.out (p + 2)).2
                rw [← hbj] at hc hy0 hy1
                have hbits := want2 zs p HY.out
                rw [← hbj] at hbits
                clear hbj
                go_wp2
                go_round
                case rel => exact ⟨2 + 1, by omega, by rw [← hbits], by go_num⟩
                case measure => simp [intOf]; omega
            · obtain rfl : j = m := by omega
              rw [HW.out]
              go_wp2
              go_roundw
              case rel => exact ⟨k + 1, len, true, by rw [← HPM.out]; go_num, rfl, by go_num, by omega, Or.inr ⟨rfl, rfl, HX.out⟩, HB3.out⟩
              case measure => simp [intOf]; omega
      · have HC := hide (u32_err B _ _ _ _ _ _ hD)
        have HB := hide hb
        have HD := hide hD
        have HC1 := hide hc1
        clear hD hb hc1
        go_wp2_with fail
        refine HC.out.mono ?_
        rintro e w' ⟨rfl, h3⟩
        have H3 := hide h3
        have hsz := HB.out.size
        have hz2 := h3.size
        clear h3
        go_wp2
        go_roundw
        case rel => exact ⟨k + 1, p, true, rfl, rfl, by go_num, by omega, Or.inr ⟨rfl, rfl, kk, pr', HD.out.below H3.out (Nat.lt_trans hkk hkz), hkk, (H3.out.cell (p := ⟨kk, 1, none⟩) hkz).trans HC1.out, Nat.lt_of_lt_of_le hkz hz2⟩, HB.out.trans (H3.out.mono (by have := HBz.out; omega))⟩
        case measure => simp [intOf]; omega
    · obtain rfl : k = rd := by omega
      rcases hst with ⟨rfl, hp, hD⟩ | ⟨rfl, rfl, kk, pr', hD, hkk, hc1, hkz⟩
      · have HB := hide hb
        have HD := hide hD
        clear hD hb
        go_wp2_with fail
        refine (err_any B _ _ _ _ _ HD.out).mono ?_
        rintro e w' ⟨rfl, rfl⟩
        go_wp2_with fail
        refine (len_any B sl len cap p (-1) .nilIface _ HD.out (by omega) (by omega) hl).mono ?_
        rintro e w' ⟨rfl, n, rfl⟩
        go_wp2
        go_ret
        exact ⟨rfl, HBz.out ▸ below_drewN HB.out n⟩
      · have HB := hide hb
        have HD := hide hD
        have hu := (HG.out.below hb).une
        have HC1 := hide hc1
        clear hD hb hc1
        go_wp2_with fail
        refine (err_any B _ _ _ _ _ HD.out).mono ?_
        rintro e w' ⟨rfl, rfl⟩
        go_wp2_with fail
        refine (is_wrap_same kk 0 a _ HC1.out).mono ?_
        rintro e w' ⟨rfl, rfl⟩
        go_wp2_with fail
        refine (len_any B sl p cap p pr' _ _ HD.out (by omega) (by omega) hl).mono ?_
        rintro e w' ⟨rfl, n, rfl⟩
        go_wp2
        go_ret
        exact ⟨rfl, HBz.out ▸ below_drewN HB.out n⟩
end Go.Proofs.YbulklyFmt
