import Derived.Test.YbulklyFmtW3
namespace Go.Proofs.YbulklyFmt
set_option linter.unusedVariables false
open Go.RowKit Go.Extern.Stop Go.Stop Go.Extern

theorem took_cell {w : World} {g i m : Nat} {zs : List Int} {t : TypeId} (h : w.heap[g]? = some (.cells (took zs i m).toArray t (0, 0))) (j : Nat) (hj : j < m) : w.cell? ⟨g, j, none⟩ = some (.int .u8 (zs.getD (i + j) 0)) := by
  simp [World.cell?, h, took, hj]

set_option maxHeartbeats 400000 in
theorem u8_read (F : Interp) (d : Nat) (sl : Option Addr) (len cap i : Nat) (pr : Int) (zs : List Int) (a : Addr) (s0 : ByteArray) (w : World) (hF : F.answers w.tape)
    (hD : Dec w d (.slice sl len cap) i pr .nilIface) (hi : i ≤ len) (hS : Src w d sl len cap zs) (hG : Glob w d a s0) :
    Calls Ybaf.prog 14 #[.pointer (some ⟨d, 0, none⟩)] w fun e w' => e = .returned (.int .u8 (zs.getD i 0)) ∧ ReadOut w' d (.slice sl len cap) len i 1 a ∧ Below d w w' := by
  have hdz := hD.lt
  have hb0 := (Below.refl _ w).alloc (Nat.le_refl _) (.cells #[.int .u8 0] 72)
  have hbd : Below d w (w.alloc (.cells #[.int .u8 0] 72)) := hb0.mono (Nat.le_of_lt hdz)
  have D1 := hD.below hb0 hdz
  have hS1 := hS.below hbd
  have hG1 := hG.below hbd
  have hF1 : F.answers (w.alloc (.cells #[.int .u8 0] 72)).tape := hF
  have hg1 : (w.alloc (.cells #[.int .u8 0] 72)).heap[w.heap.size]? = some (.cells (List.replicate 1 (.int .u8 0)).toArray 72 (0, 0)) := by
    show (w.heap.push _)[w.heap.size]? = _
    simp
  have HC := hide (fixed_any F d w.heap.size 1 sl len cap i pr zs 72 ⟨#[117, 56]⟩ a s0 _ hF1 D1 hi hS1 hG1 hdz hg1 (by decide) (by decide))
  have HB := hide hbd
  clear hb0 hbd D1 hS1 hG1 hg1 hD hS hG hF hF1
  go_enter Ybaf.func14, Ybaf.ntmps14
  go_wp2_with fail
  refine HC.out.mono ?_
  rintro e w' ⟨rfl, h1, h2, h3⟩
  have c0 := took_cell h2 0 (by decide)
  have H1 := hide h1
  have H3 := hide h3
  clear h1 h2 h3
  go_wp2
  go_ret
  refine ⟨rfl, H1.out, HB.out.trans H3.out⟩

theorem u8_err (d : Nat) (sl : Value) (i pr : Int) (T : TypeId) (x : Value) (w : World) (hD : Dec w d sl i pr (.iface T x)) :
    Calls Ybaf.prog 14 #[.pointer (some ⟨d, 0, none⟩)] w fun e w' => e = .returned (.int .u8 0) ∧ Below w.heap.size w w' := by
  have hdz := hD.lt
  have hb0 := (Below.refl _ w).alloc (Nat.le_refl _) (.cells #[.int .u8 0] 72)
  have HC := hide (fixed_err d sl i pr T x (.slice (some ⟨w.heap.size, 0, none⟩) 1 1) ⟨#[117, 56]⟩ _ (hD.below hb0 hdz))
  have HB := hide hb0
  clear hb0 hD
  go_enter Ybaf.func14, Ybaf.ntmps14
  go_wp2_with fail
  refine HC.out.mono ?_
  rintro e w' ⟨rfl, rfl⟩
  go_wp2
  go_ret
  exact ⟨rfl, HB.out⟩

/-- THE LAW's WALK: a payload of at most 1,024 bytes. -/
theorem leftover_any (F : Interp) (sl : Option Addr) (len cap : Nat) (n : Int) (zs : List Int) (a : Addr) (s0 : ByteArray) (w : World) (hF : F.answers w.tape) (hn0 : 0 ≤ n) (hn1 : n ≤ 65535)
    (hS : Src w w.heap.size sl len cap zs) (hG : Glob w w.heap.size a s0) :
    Calls Ybaf.prog 5 #[.slice sl len cap, .int .u16 n] w fun e w' => e = .returned (.bool true) ∧ Below w.heap.size w w' := by
  have hl := hS.hsmall
  have hdl : decide ((1024 : Int) < (len : Int)) = false := by simp; omega
  have HS := hide hS
  have HG := hide hG
  clear hS hG
  go_enter Ybaf.func5, Ybaf.ntmps5
  go_wp2_with fail
  refine (newDecoder_any sl len cap w).mono ?_
  rintro e w1 ⟨rfl, rfl⟩
  go_wp2_with fail
  obtain ⟨kk, hk, hkl⟩ : ∃ kk : Nat, n % ((len : Int) + 1) = kk ∧ kk ≤ len := by
    have h1 := Int.emod_nonneg n (show (len : Int) + 1 ≠ 0 by omega)
    have h2 := Int.emod_lt_of_pos n (show (0 : Int) < (len : Int) + 1 by omega)
    exact ⟨(n % ((len : Int) + 1)).toNat, by omega, by omega⟩
  rw [hk]
  clear hk
  have hb1 := (Below.refl _ w).alloc (Nat.le_refl _) (.cells #[.slice sl len cap, .int .i64 0, .int .i64 (-1), .nilIface] 35)
  have D1 : Dec (w.alloc (.cells #[.slice sl len cap, .int .i64 0, .int .i64 (-1), .nilIface] 35)) w.heap.size (.slice sl len cap) (0 : Nat) (-1) .nilIface := by
    show (w.heap.push _)[w.heap.size]? = _
    simp
  have HD1 := hide D1
  have HB1 := hide hb1
  clear D1 hb1
  generalize hB : w.heap.size = B at *
  have HBz := hide hB
  clear hB
  go_loopw [7] (fun i wr => ∃ k : Nat, i = .int .i64 k ∧ k ≤ kk ∧ Dec wr B (.slice sl len cap) k (-1) .nilIface ∧ Below B w wr) (fun i _ => kk - (intOf i).toNat)
  case atStart => exact ⟨0, rfl, Nat.zero_le _, HD1.out, HB1.out⟩
  case round =>
    obtain ⟨k, rfl, hk, hD, hb⟩ := hrel
    by_cases hlt : k < kk
    · have HC := hide (u8_read F B sl len cap k (-1) zs a s0 _ (by rw [hb.tape]; exact hF) hD (by omega) (HS.out.below hb) (HG.out.below hb))
      have HB := hide hb
      clear hD hb
      go_wp2_with fail
      refine HC.out.mono ?_
      rintro e w' ⟨rfl, h1, h3⟩
      have HD : Hid (Dec w' B (.slice sl len cap) (k + 1 : Nat) (-1) .nilIface) := by
        rcases h1 with ⟨_, h⟩ | ⟨h, _⟩
        · exact h
        · omega
      have HB3 : Hid (Below B w w') := HB.out.trans h3
      clear h1 h3
      go_wp2
      go_roundw
      case rel => exact ⟨k + 1, by go_num, by omega, HD.out, HB3.out⟩
      case measure => simp [intOf]; omega
    · obtain rfl : k = kk := by omega
      have hFr : F.answers wr.tape := by rw [hb.tape]; exact hF
      have HB := hide hb
      have HD := hide hD
      have hsz := hb.size
      clear hD hb
      go_wp2_with fail
      refine (err_any B _ _ _ _ _ HD.out).mono ?_
      rintro e w' ⟨rfl, rfl⟩
      by_cases hkl2 : k < len
      · go_wp2_with fail
        refine (end_left F B sl len cap k (-1) _ hFr HD.out hkl2 hl).mono ?_
        rintro e w' ⟨⟨ad, rfl⟩, h⟩
        have H := hide h
        clear h
        go_wp2
        go_ret
        exact ⟨rfl, HBz.out ▸ HB.out.trans (H.out.mono (by have := HBz.out; omega))⟩
      · go_wp2_with fail
        refine (end_none B sl len cap k (-1) _ HD.out (by omega) hl).mono ?_
        rintro e w' ⟨rfl, q, rfl⟩
        go_wp2
        go_ret
        exact ⟨rfl, HBz.out ▸ below_drewN HB.out q⟩
end Go.Proofs.YbulklyFmt
