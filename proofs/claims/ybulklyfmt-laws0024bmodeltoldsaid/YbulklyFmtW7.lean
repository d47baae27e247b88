import Derived.Test.YbulklyFmtW5
namespace Go.Proofs.YbulklyFmt
set_option linter.unusedVariables false
open Go.RowKit Go.Extern.Stop Go.Stop Go.Extern

set_option maxHeartbeats 4000000 in
theorem uint16_some (g : Nat) (x0 x1 : Int) (w : World) (a0 : 0 ≤ x0) (b0 : x0 < 256) (a1 : 0 ≤ x1) (b1 : x1 < 256)
    (c0 : w.cell? ⟨g, 0, none⟩ = some (.int .u8 x0)) (c1 : w.cell? ⟨g, 1, none⟩ = some (.int .u8 x1)) :
    Calls Ybaf.prog 28 #[.agg #[], .slice (some ⟨g, 0, none⟩) 2 2] w fun e w' => (∃ x, e = .returned x) ∧ Below w.heap.size w w' := by
  have hlt : g < w.heap.size := by
    rcases Nat.lt_or_ge g w.heap.size with h | h
    · exact h
    · simp [World.cell?, Array.getElem?_eq_none h] at c0
  have hb := (Below.refl _ w).alloc (Nat.le_refl _) (.cells #[] 61)
  have d0 : (w.alloc (.cells #[] 61)).cell? ⟨g, 0, none⟩ = some (.int .u8 x0) := (hb.cell (p := ⟨g, 0, none⟩) hlt).trans c0
  have d1 : (w.alloc (.cells #[] 61)).cell? ⟨g, 1, none⟩ = some (.int .u8 x1) := (hb.cell (p := ⟨g, 1, none⟩) hlt).trans c1
  have HB := hide hb
  clear hb c0 c1 hlt
  go_enter Ybaf.func28, Ybaf.ntmps28
  go_wp2
  go_quiet (fail)
  go_wp2
  go_ret
  exact ⟨⟨_, rfl⟩, below_drewN HB.out nq⟩

set_option maxHeartbeats 4000000 in
theorem uint64_some (g : Nat) (x0 x1 x2 x3 x4 x5 x6 x7 : Int) (w : World) (a0 : 0 ≤ x0) (b0 : x0 < 256) (a1 : 0 ≤ x1) (b1 : x1 < 256) (a2 : 0 ≤ x2) (b2 : x2 < 256) (a3 : 0 ≤ x3) (b3 : x3 < 256) (a4 : 0 ≤ x4) (b4 : x4 < 256) (a5 : 0 ≤ x5) (b5 : x5 < 256) (a6 : 0 ≤ x6) (b6 : x6 < 256) (a7 : 0 ≤ x7) (b7 : x7 < 256)
    (c0 : w.cell? ⟨g, 0, none⟩ = some (.int .u8 x0)) (c1 : w.cell? ⟨g, 1, none⟩ = some (.int .u8 x1)) (c2 : w.cell? ⟨g, 2, none⟩ = some (.int .u8 x2)) (c3 : w.cell? ⟨g, 3, none⟩ = some (.int .u8 x3)) (c4 : w.cell? ⟨g, 4, none⟩ = some (.int .u8 x4)) (c5 : w.cell? ⟨g, 5, none⟩ = some (.int .u8 x5)) (c6 : w.cell? ⟨g, 6, none⟩ = some (.int .u8 x6)) (c7 : w.cell? ⟨g, 7, none⟩ = some (.int .u8 x7)) :
    Calls Ybaf.prog 29 #[.agg #[], .slice (some ⟨g, 0, none⟩) 8 8] w fun e w' => (∃ x, e = .returned x) ∧ Below w.heap.size w w' := by
  have hlt : g < w.heap.size := by
    rcases Nat.lt_or_ge g w.heap.size with h | h
    · exact h
    · simp [World.cell?, Array.getElem?_eq_none h] at c0
  have hb := (Below.refl _ w).alloc (Nat.le_refl _) (.cells #[] 61)
  have d0 : (w.alloc (.cells #[] 61)).cell? ⟨g, 0, none⟩ = some (.int .u8 x0) := (hb.cell (p := ⟨g, 0, none⟩) hlt).trans c0
  have d1 : (w.alloc (.cells #[] 61)).cell? ⟨g, 1, none⟩ = some (.int .u8 x1) := (hb.cell (p := ⟨g, 1, none⟩) hlt).trans c1
  have d2 : (w.alloc (.cells #[] 61)).cell? ⟨g, 2, none⟩ = some (.int .u8 x2) := (hb.cell (p := ⟨g, 2, none⟩) hlt).trans c2
  have d3 : (w.alloc (.cells #[] 61)).cell? ⟨g, 3, none⟩ = some (.int .u8 x3) := (hb.cell (p := ⟨g, 3, none⟩) hlt).trans c3
  have d4 : (w.alloc (.cells #[] 61)).cell? ⟨g, 4, none⟩ = some (.int .u8 x4) := (hb.cell (p := ⟨g, 4, none⟩) hlt).trans c4
  have d5 : (w.alloc (.cells #[] 61)).cell? ⟨g, 5, none⟩ = some (.int .u8 x5) := (hb.cell (p := ⟨g, 5, none⟩) hlt).trans c5
  have d6 : (w.alloc (.cells #[] 61)).cell? ⟨g, 6, none⟩ = some (.int .u8 x6) := (hb.cell (p := ⟨g, 6, none⟩) hlt).trans c6
  have d7 : (w.alloc (.cells #[] 61)).cell? ⟨g, 7, none⟩ = some (.int .u8 x7) := (hb.cell (p := ⟨g, 7, none⟩) hlt).trans c7
  have HB := hide hb
  clear hb c0 c1 c2 c3 c4 c5 c6 c7 hlt
  go_enter Ybaf.func29, Ybaf.ntmps29
  go_wp2
  go_quiet (fail)
  go_wp2
  go_ret
  exact ⟨⟨_, rfl⟩, below_drewN HB.out nq⟩

set_option maxHeartbeats 4000000 in
theorem u16_read (F : Interp) (d : Nat) (sl : Option Addr) (len cap i : Nat) (pr : Int) (zs : List Int) (a : Addr) (s0 : ByteArray) (w : World) (hF : F.answers w.tape)
    (hD : Dec w d (.slice sl len cap) i pr .nilIface) (hi : i ≤ len) (hS : Src w d sl len cap zs) (hG : Glob w d a s0) (hy : Bytes zs) :
    Calls Ybaf.prog 15 #[.pointer (some ⟨d, 0, none⟩)] w fun e w' => (∃ x, e = .returned x) ∧ ReadOut w' d (.slice sl len cap) len i 2 a ∧ Below d w w' := by
  have hdz := hD.lt
  have hb0 := (Below.refl _ w).alloc (Nat.le_refl _) (.cells #[.int .u8 0, .int .u8 0] 73)
  have hbd : Below d w (w.alloc (.cells #[.int .u8 0, .int .u8 0] 73)) := hb0.mono (Nat.le_of_lt hdz)
  have D1 := hD.below hb0 hdz
  have hS1 := hS.below hbd
  have hG1 := hG.below hbd
  have hF1 : F.answers (w.alloc (.cells #[.int .u8 0, .int .u8 0] 73)).tape := hF
  have hg1 : (w.alloc (.cells #[.int .u8 0, .int .u8 0] 73)).heap[w.heap.size]? = some (.cells (List.replicate 2 (.int .u8 0)).toArray 73 (0, 0)) := by
    show (w.heap.push _)[w.heap.size]? = _
    simp
  have HC := hide (fixed_any F d w.heap.size 2 sl len cap i pr zs 73 ⟨#[117, 49, 54]⟩ a s0 _ hF1 D1 hi hS1 hG1 hdz hg1 (by decide) (by decide))
  have HB := hide hbd
  have HY := hide hy
  clear hb0 hbd D1 hS1 hG1 hg1 hD hS hG hF hF1 hy
  go_enter Ybaf.func15, Ybaf.ntmps15
  go_wp2_with fail
  refine HC.out.mono ?_
  rintro e w' ⟨rfl, h1, h2, h3⟩
  have c0 := took_cell h2 0 (by decide)
  have c1 := took_cell h2 1 (by decide)
  have H1 := hide h1
  have H3 := hide h3
  clear h1 h2 h3
  have HU := hide (uint16_some w.heap.size _ _ w'.drew (HY.out (i + 0)).1 (HY.out (i + 0)).2 (HY.out (i + 1)).1 (HY.out (i + 1)).2 c0 c1)
  clear c0 c1
  go_wp2_with fail
  go_region_with (go_at_call 28; refine HU.out.mono ?_; rintro e w2 ⟨⟨xv, rfl⟩, hw2⟩)
  all_goals
    have hz : d < w'.heap.size := by have := HB.out.size; have := H3.out.size; omega
    have HW := hide hw2
    clear hw2
    go_wp2
    go_ret
    exact ⟨⟨_, rfl⟩, H1.out.below (w := w'.drew) HW.out hz (Nat.le_refl _), (HB.out.trans H3.out).trans ((Below.refl _ _).drew.trans (HW.out.mono (Nat.le_of_lt hz)))⟩

set_option maxHeartbeats 4000000 in
theorem u16_err (d : Nat) (sl : Value) (i pr : Int) (T : TypeId) (x : Value) (w : World) (hD : Dec w d sl i pr (.iface T x)) :
    Calls Ybaf.prog 15 #[.pointer (some ⟨d, 0, none⟩)] w fun e w' => (∃ x, e = .returned x) ∧ Below w.heap.size w w' := by
  have hdz := hD.lt
  have hb0 := (Below.refl _ w).alloc (Nat.le_refl _) (.cells #[.int .u8 0, .int .u8 0] 73)
  have HC := hide (fixed_err d sl i pr T x (.slice (some ⟨w.heap.size, 0, none⟩) 2 2) ⟨#[117, 49, 54]⟩ _ (hD.below hb0 hdz))
  have HB := hide hb0
  clear hb0 hD
  go_enter Ybaf.func15, Ybaf.ntmps15
  go_wp2_with fail
  refine HC.out.mono ?_
  rintro e w' ⟨rfl, rfl⟩
  have cs : ∀ j, j < 2 → (w.alloc (.cells #[.int .u8 0, .int .u8 0] 73)).drew.cell? ⟨w.heap.size, j, none⟩ = some (.int .u8 0) := by
    intro j hj
    rw [World.cell?_drew, World.cell?_alloc_at (hn := by simp)]
    have : j = 0 ∨ j = 1 := by omega
    rcases this with rfl | rfl <;> rfl
  have HU := hide (uint16_some w.heap.size 0 0 _ (by decide) (by decide) (by decide) (by decide) (cs 0 (by decide)) (cs 1 (by decide)))
  clear cs
  go_wp2_with fail
  go_region_with (go_at_call 28; refine HU.out.mono ?_; rintro e w2 ⟨⟨xv, rfl⟩, hw2⟩)
  all_goals
    have HW := hide hw2
    clear hw2
    go_wp2
    go_ret
    exact ⟨⟨_, rfl⟩, HB.out.trans ((Below.refl _ _).drew.trans (HW.out.mono (by simp)))⟩

set_option maxHeartbeats 4000000 in
theorem u64_read (F : Interp) (d : Nat) (sl : Option Addr) (len cap i : Nat) (pr : Int) (zs : List Int) (a : Addr) (s0 : ByteArray) (w : World) (hF : F.answers w.tape)
    (hD : Dec w d (.slice sl len cap) i pr .nilIface) (hi : i ≤ len) (hS : Src w d sl len cap zs) (hG : Glob w d a s0) (hy : Bytes zs) :
    Calls Ybaf.prog 16 #[.pointer (some ⟨d, 0, none⟩)] w fun e w' => (∃ x, e = .returned x) ∧ ReadOut w' d (.slice sl len cap) len i 8 a ∧ Below d w w' := by
  have hdz := hD.lt
  have hb0 := (Below.refl _ w).alloc (Nat.le_refl _) (.cells #[.int .u8 0, .int .u8 0, .int .u8 0, .int .u8 0, .int .u8 0, .int .u8 0, .int .u8 0, .int .u8 0] 75)
  have hbd : Below d w (w.alloc (.cells #[.int .u8 0, .int .u8 0, .int .u8 0, .int .u8 0, .int .u8 0, .int .u8 0, .int .u8 0, .int .u8 0] 75)) := hb0.mono (Nat.le_of_lt hdz)
  have D1 := hD.below hb0 hdz
  have hS1 := hS.below hbd
  have hG1 := hG.below hbd
  have hF1 : F.answers (w.alloc (.cells #[.int .u8 0, .int .u8 0, .int .u8 0, .int .u8 0, .int .u8 0, .int .u8 0, .int .u8 0, .int .u8 0] 75)).tape := hF
  have hg1 : (w.alloc (.cells #[.int .u8 0, .int .u8 0, .int .u8 0, .int .u8 0, .int .u8 0, .int .u8 0, .int .u8 0, .int .u8 0] 75)).heap[w.heap.size]? = some (.cells (List.replicate 8 (.int .u8 0)).toArray 75 (0, 0)) := by
    show (w.heap.push _)[w.heap.size]? = _
    simp
  have HC := hide (fixed_any F d w.heap.size 8 sl len cap i pr zs 75 ⟨#[117, 54, 52]⟩ a s0 _ hF1 D1 hi hS1 hG1 hdz hg1 (by decide) (by decide))
  have HB := hide hbd
  have HY := hide hy
  clear hb0 hbd D1 hS1 hG1 hg1 hD hS hG hF hF1 hy
  go_enter Ybaf.func16, Ybaf.ntmps16
  go_wp2_with fail
  refine HC.out.mono ?_
  rintro e w' ⟨rfl, h1, h2, h3⟩
  have c0 := took_cell h2 0 (by decide)
  have c1 := took_cell h2 1 (by decide)
  have c2 := took_cell h2 2 (by decide)
  have c3 := took_cell h2 3 (by decide)
  have c4 := took_cell h2 4 (by decide)
  have c5 := took_cell h2 5 (by decide)
  have c6 := took_cell h2 6 (by decide)
  have c7 := took_cell h2 7 (by decide)
  have H1 := hide h1
  have H3 := hide h3
  clear h1 h2 h3
  have HU := hide (uint64_some w.heap.size _ _ _ _ _ _ _ _ w'.drew (HY.out (i + 0)).1 (HY.out (i + 0)).2 (HY.out (i + 1)).1 (HY.out (i + 1)).2 (HY.out (i + 2)).1 (HY.out (i + 2)).2 (HY.out (i + 3)).1 (HY.out (i + 3)).2 (HY.out (i + 4)).1 (HY.out (i + 4)).2 (HY.out (i + 5)).1 (HY.out (i + 5)).2 (HY.out (i + 6)).1 (HY.out (i + 6)).2 (HY.out (i + 7)).1 (HY.out (i + 7)).2 c0 c1 c2 c3 c4 c5 c6 c7)
  clear c0 c1 c2 c3 c4 c5 c6 c7
  go_wp2_with fail
  go_region_with (go_at_call 29; refine HU.out.mono ?_; rintro e w2 ⟨⟨xv, rfl⟩, hw2⟩)
  all_goals
    have hz : d < w'.heap.size := by have := HB.out.size; have := H3.out.size; omega
    have HW := hide hw2
    clear hw2
    go_wp2
    go_ret
    exact ⟨⟨_, rfl⟩, H1.out.below (w := w'.drew) HW.out hz (Nat.le_refl _), (HB.out.trans H3.out).trans ((Below.refl _ _).drew.trans (HW.out.mono (Nat.le_of_lt hz)))⟩

set_option maxHeartbeats 4000000 in
theorem u64_err (d : Nat) (sl : Value) (i pr : Int) (T : TypeId) (x : Value) (w : World) (hD : Dec w d sl i pr (.iface T x)) :
    Calls Ybaf.prog 16 #[.pointer (some ⟨d, 0, none⟩)] w fun e w' => (∃ x, e = .returned x) ∧ Below w.heap.size w w' := by
  have hdz := hD.lt
  have hb0 := (Below.refl _ w).alloc (Nat.le_refl _) (.cells #[.int .u8 0, .int .u8 0, .int .u8 0, .int .u8 0, .int .u8 0, .int .u8 0, .int .u8 0, .int .u8 0] 75)
  have HC := hide (fixed_err d sl i pr T x (.slice (some ⟨w.heap.size, 0, none⟩) 8 8) ⟨#[117, 54, 52]⟩ _ (hD.below hb0 hdz))
  have HB := hide hb0
  clear hb0 hD
  go_enter Ybaf.func16, Ybaf.ntmps16
  go_wp2_with fail
  refine HC.out.mono ?_
  rintro e w' ⟨rfl, rfl⟩
  have cs : ∀ j, j < 8 → (w.alloc (.cells #[.int .u8 0, .int .u8 0, .int .u8 0, .int .u8 0, .int .u8 0, .int .u8 0, .int .u8 0, .int .u8 0] 75)).drew.cell? ⟨w.heap.size, j, none⟩ = some (.int .u8 0) := by
    intro j hj
    rw [World.cell?_drew, World.cell?_alloc_at (hn := by simp)]
    have : j = 0 ∨ j = 1 ∨ j = 2 ∨ j = 3 ∨ j = 4 ∨ j = 5 ∨ j = 6 ∨ j = 7 := by omega
    rcases this with rfl | rfl | rfl | rfl | rfl | rfl | rfl | rfl <;> rfl
  have HU := hide (uint64_some w.heap.size 0 0 0 0 0 0 0 0 _ (by decide) (by decide) (by decide) (by decide) (by decide) (by decide) (by decide) (by decide) (by decide) (by decide) (by decide) (by decide) (by decide) (by decide) (by decide) (by decide) (cs 0 (by decide)) (cs 1 (by decide)) (cs 2 (by decide)) (cs 3 (by decide)) (cs 4 (by decide)) (cs 5 (by decide)) (cs 6 (by decide)) (cs 7 (by decide)))
  clear cs
  go_wp2_with fail
  go_region_with (go_at_call 29; refine HU.out.mono ?_; rintro e w2 ⟨⟨xv, rfl⟩, hw2⟩)
  all_goals
    have HW := hide hw2
    clear hw2
    go_wp2
    go_ret
    exact ⟨⟨_, rfl⟩, HB.out.trans ((Below.refl _ _).drew.trans (HW.out.mono (by simp)))⟩

end Go.Proofs.YbulklyFmt
