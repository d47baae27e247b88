import Derived.Test.YbulklyFmtW4
import Derived.Laws.BitsAllLaws
namespace Go.Proofs.YbulklyFmt
set_option linter.unusedVariables false
open Go.RowKit Go.Extern.Stop Go.Stop Go.Extern

/-- big-endian: four bytes from place i on. -/
def be4 (zs : List Int) (i : Nat) : Int := zs.getD i 0 * 16777216 + zs.getD (i + 1) 0 * 65536 + zs.getD (i + 2) 0 * 256 + zs.getD (i + 3) 0

theorem or_mul (a b i m : Nat) (hm : m = 2 ^ i) (h : a < m) : a ||| (b * m) = b * m + a := by
  subst hm
  rw [Nat.or_comm, ← Nat.shiftLeft_eq, Nat.shiftLeft_add_eq_or_of_lt h]

theorem be32_sum (x0 x1 x2 x3 : Int) (a0 : 0 ≤ x0) (b0 : x0 < 256) (a1 : 0 ≤ x1) (b1 : x1 < 256) (a2 : 0 ≤ x2) (b2 : x2 < 256) (a3 : 0 ≤ x3) (b3 : x3 < 256) :
    bits BinOp.or IntKind.u32 (bits BinOp.or IntKind.u32 (bits BinOp.or IntKind.u32 x3 (x2 * 256)) (x1 * 65536)) (x0 * 16777216) = x0 * 16777216 + x1 * 65536 + x2 * 256 + x3 := by
  obtain ⟨n0, rfl⟩ := Int.eq_ofNat_of_zero_le a0
  obtain ⟨n1, rfl⟩ := Int.eq_ofNat_of_zero_le a1
  obtain ⟨n2, rfl⟩ := Int.eq_ofNat_of_zero_le a2
  obtain ⟨n3, rfl⟩ := Int.eq_ofNat_of_zero_le a3
  have e2 : ((n2 : Int) * 256) = ((n2 * 256 : Nat) : Int) := by omega
  have e1 : ((n1 : Int) * 65536) = ((n1 * 65536 : Nat) : Int) := by omega
  have e0 : ((n0 : Int) * 16777216) = ((n0 * 16777216 : Nat) : Int) := by omega
  rw [e2, e1, e0, u32_or_nat n3 (n2 * 256) (by omega) (by omega), or_mul n3 n2 8 256 (by decide) (by omega), u32_or_nat _ (n1 * 65536) (by omega) (by omega), or_mul _ n1 16 65536 (by decide) (by omega), u32_or_nat _ (n0 * 16777216) (by omega) (by omega), or_mul _ n0 24 16777216 (by decide) (by omega)]
  omega

set_option maxHeartbeats 1000000 in
theorem uint32_any (g : Nat) (x0 x1 x2 x3 : Int) (w : World) (a0 : 0 ≤ x0) (b0 : x0 < 256) (a1 : 0 ≤ x1) (b1 : x1 < 256) (a2 : 0 ≤ x2) (b2 : x2 < 256) (a3 : 0 ≤ x3) (b3 : x3 < 256)
    (c0 : w.cell? ⟨g, 0, none⟩ = some (.int .u8 x0)) (c1 : w.cell? ⟨g, 1, none⟩ = some (.int .u8 x1)) (c2 : w.cell? ⟨g, 2, none⟩ = some (.int .u8 x2)) (c3 : w.cell? ⟨g, 3, none⟩ = some (.int .u8 x3)) :
    Calls Ybaf.prog 25 #[.agg #[], .slice (some ⟨g, 0, none⟩) 4 4] w fun e w' => e = .returned (.int .u32 (x0 * 16777216 + x1 * 65536 + x2 * 256 + x3)) ∧ Below w.heap.size w w' := by
  have hlt : g < w.heap.size := by
    rcases Nat.lt_or_ge g w.heap.size with h | h
    · exact h
    · simp [World.cell?, Array.getElem?_eq_none h] at c0
  have hb := (Below.refl _ w).alloc (Nat.le_refl _) (.cells #[] 61)
  have d0 : (w.alloc (.cells #[] 61)).cell? ⟨g, 0, none⟩ = some (.int .u8 x0) := (hb.cell (p := ⟨g, 0, none⟩) hlt).trans c0
  have d1 : (w.alloc (.cells #[] 61)).cell? ⟨g, 1, none⟩ = some (.int .u8 x1) := (hb.cell (p := ⟨g, 1, none⟩) hlt).trans c1
  have d2 : (w.alloc (.cells #[] 61)).cell? ⟨g, 2, none⟩ = some (.int .u8 x2) := (hb.cell (p := ⟨g, 2, none⟩) hlt).trans c2
  have d3 : (w.alloc (.cells #[] 61)).cell? ⟨g, 3, none⟩ = some (.int .u8 x3) := (hb.cell (p := ⟨g, 3, none⟩) hlt).trans c3
  have HB := hide hb
  clear hb c0 c1 c2 c3 hlt
  go_enter Ybaf.func25, Ybaf.ntmps25
  go_wp2
  go_quiet (fail)
  go_wp2
  go_ret
  refine ⟨?_, below_drewN HB.out nq⟩
  exact congrArg (fun x => Ending.returned (.int .u32 x)) (be32_sum x0 x1 x2 x3 a0 b0 a1 b1 a2 b2 a3 b3)

def Bytes (zs : List Int) : Prop := ∀ j, 0 ≤ zs.getD j 0 ∧ zs.getD j 0 < 256

set_option maxHeartbeats 1000000 in
theorem u32_read (F : Interp) (d : Nat) (sl : Option Addr) (len cap i : Nat) (pr : Int) (zs : List Int) (a : Addr) (s0 : ByteArray) (w : World) (hF : F.answers w.tape)
    (hD : Dec w d (.slice sl len cap) i pr .nilIface) (hi : i ≤ len) (hS : Src w d sl len cap zs) (hG : Glob w d a s0) (hy : Bytes zs) :
    Calls Ybaf.prog 9 #[.pointer (some ⟨d, 0, none⟩)] w fun e w' => e = .returned (.int .u32 (be4 zs i)) ∧ ReadOut w' d (.slice sl len cap) len i 4 a ∧ Below d w w' := by
  have hdz := hD.lt
  have hb0 := (Below.refl _ w).alloc (Nat.le_refl _) (.cells #[.int .u8 0, .int .u8 0, .int .u8 0, .int .u8 0] 58)
  have hbd : Below d w (w.alloc (.cells #[.int .u8 0, .int .u8 0, .int .u8 0, .int .u8 0] 58)) := hb0.mono (Nat.le_of_lt hdz)
  have D1 := hD.below hb0 hdz
  have hS1 := hS.below hbd
  have hG1 := hG.below hbd
  have hF1 : F.answers (w.alloc (.cells #[.int .u8 0, .int .u8 0, .int .u8 0, .int .u8 0] 58)).tape := hF
  have hg1 : (w.alloc (.cells #[.int .u8 0, .int .u8 0, .int .u8 0, .int .u8 0] 58)).heap[w.heap.size]? = some (.cells (List.replicate 4 (.int .u8 0)).toArray 58 (0, 0)) := by
    show (w.heap.push _)[w.heap.size]? = _
    simp
  have HC := hide (fixed_any F d w.heap.size 4 sl len cap i pr zs 58 ⟨#[117, 51, 50]⟩ a s0 _ hF1 D1 hi hS1 hG1 hdz hg1 (by decide) (by decide))
  have HB := hide hbd
  have HY := hide hy
  clear hb0 hbd D1 hS1 hG1 hg1 hD hS hG hF hF1 hy
  go_enter Ybaf.func9, Ybaf.ntmps9
  go_wp2_with fail
  refine HC.out.mono ?_
  rintro e w' ⟨rfl, h1, h2, h3⟩
  have c0 := took_cell h2 0 (by decide)
  have c1 := took_cell h2 1 (by decide)
  have c2 := took_cell h2 2 (by decide)
  have c3 := took_cell h2 3 (by decide)
  have H1 := hide h1
  have H3 := hide h3
  clear h1 h2 h3
  have HU := hide (uint32_any w.heap.size _ _ _ _ w'.drew (HY.out i).1 (HY.out i).2 (HY.out (i + 1)).1 (HY.out (i + 1)).2 (HY.out (i + 2)).1 (HY.out (i + 2)).2 (HY.out (i + 3)).1 (HY.out (i + 3)).2 c0 c1 c2 c3)
  go_wp2_with fail
  go_region_with (go_at_call 25; refine HU.out.mono ?_; rintro e w2 ⟨rfl, hw2⟩)
  all_goals
    have hz : d < w'.heap.size := by have := HB.out.size; have := H3.out.size; omega
    have HW := hide hw2
    clear hw2
    go_wp2
    go_ret
    exact ⟨rfl, H1.out.below (w := w'.drew) HW.out hz (Nat.le_refl _), (HB.out.trans H3.out).trans ((Below.refl _ _).drew.trans (HW.out.mono (Nat.le_of_lt hz)))⟩

theorem uint32_zero (g : Nat) (w : World) (c0 : w.cell? ⟨g, 0, none⟩ = some (.int .u8 0)) (c1 : w.cell? ⟨g, 1, none⟩ = some (.int .u8 0)) (c2 : w.cell? ⟨g, 2, none⟩ = some (.int .u8 0)) (c3 : w.cell? ⟨g, 3, none⟩ = some (.int .u8 0)) :
    Calls Ybaf.prog 25 #[.agg #[], .slice (some ⟨g, 0, none⟩) 4 4] w fun e w' => e = .returned (.int .u32 0) ∧ Below w.heap.size w w' :=
  uint32_any g 0 0 0 0 w (by decide) (by decide) (by decide) (by decide) (by decide) (by decide) (by decide) (by decide) c0 c1 c2 c3

set_option maxHeartbeats 1000000 in
theorem u32_err (d : Nat) (sl : Value) (i pr : Int) (T : TypeId) (x : Value) (w : World) (hD : Dec w d sl i pr (.iface T x)) :
    Calls Ybaf.prog 9 #[.pointer (some ⟨d, 0, none⟩)] w fun e w' => e = .returned (.int .u32 0) ∧ Below w.heap.size w w' := by
  have hdz := hD.lt
  have hb0 := (Below.refl _ w).alloc (Nat.le_refl _) (.cells #[.int .u8 0, .int .u8 0, .int .u8 0, .int .u8 0] 58)
  have HC := hide (fixed_err d sl i pr T x (.slice (some ⟨w.heap.size, 0, none⟩) 4 4) ⟨#[117, 51, 50]⟩ _ (hD.below hb0 hdz))
  have HB := hide hb0
  clear hb0 hD
  go_enter Ybaf.func9, Ybaf.ntmps9
  go_wp2_with fail
  refine HC.out.mono ?_
  rintro e w' ⟨rfl, rfl⟩
  have cs : ∀ j, j < 4 → (w.alloc (.cells #[.int .u8 0, .int .u8 0, .int .u8 0, .int .u8 0] 58)).drew.cell? ⟨w.heap.size, j, none⟩ = some (.int .u8 0) := by
    intro j hj
    rw [World.cell?_drew, World.cell?_alloc_at (hn := by simp)]
    have : j = 0 ∨ j = 1 ∨ j = 2 ∨ j = 3 := by omega
    rcases this with rfl | rfl | rfl | rfl <;> rfl
  have HU := hide (uint32_zero w.heap.size _ (cs 0 (by decide)) (cs 1 (by decide)) (cs 2 (by decide)) (cs 3 (by decide)))
  clear cs
  go_wp2_with fail
  go_region_with (go_at_call 25; refine HU.out.mono ?_; rintro e w2 ⟨rfl, hw2⟩)
  all_goals
    have HW := hide hw2
    clear hw2
    go_wp2
    go_ret
    exact ⟨rfl, HB.out.trans ((Below.refl _ _).drew.trans (HW.out.mono (by simp)))⟩
end Go.Proofs.YbulklyFmt
