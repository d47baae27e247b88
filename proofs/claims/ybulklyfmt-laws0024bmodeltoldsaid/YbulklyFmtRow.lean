import Derived.Test.YbulklyFmtTie
import Derived.Test.YbulklyFmtCards
import Derived.Test.YbulklyFmtW3
import Derived.ProofKit
import Derived.OpenShut
import Derived.Stop.JoinedTold
import Derived.Stop.JoinedAt
import Derived.Stop.LaidTwo
import Derived.Stop.LaidErr
import Derived.SevenTiedAt
namespace Go.Proofs.YbulklyFmt
set_option linter.unusedVariables false
open Go.ChangeShapes Go.WideShapes Go.ChangeAt Go.RowKit Go.Kit
open Go.Extern.Stop Go.Stop Go.Extern

theorem Ybaf.own : ownKnob Ybaf.prog.godebug = none := by kernel_rfl
theorem Ybaf.laidOut : laidOutB Ybaf.pinned.checked.prog = true := by kernel_rfl
theorem Ybaf.stops : Ybaf.pinned.checked.prog.stops = ["fmt.errorf"] := by kernel_rfl
theorem Ybaf.stopKnobs : Ybaf.pinned.checked.prog.stopKnobs = [] := by kernel_rfl
theorem Ybaf.quiet (os : Os) : Stop.quiet Ybaf.pinned.checked.prog os := by
  intro k hk
  rw [Ybaf.stopKnobs] at hk
  cases hk

theorem Ybaf.gE : Ybaf.prog.globalNamed "io.EOF" = some 2 := by kernel_rfl
theorem Ybaf.gEType : (Ybaf.prog.globals[2]?).map (·.type) = some 29 := by kernel_rfl
theorem Ybaf.gU : Ybaf.prog.globalNamed "io.ErrUnexpectedEOF" = some 0 := by kernel_rfl
theorem Ybaf.gUType : (Ybaf.prog.globals[0]?).map (·.type) = some 29 := by kernel_rfl
theorem Ybaf.cells71 : Ybaf.prog.cellsOf 71 = 1 := by kernel_rfl
theorem Ybaf.cells9 : Ybaf.prog.cellsOf 9 = 1 := by kernel_rfl
theorem Ybaf.cells5 : Ybaf.prog.cellsOf 5 = 1 := by kernel_rfl
theorem Ybaf.row69 (u : TypeId) (h : Ybaf.prog.typeName? 3 u = some Ybaf.star) : u = 69 := by
  exact typeName_ptr_named (nm := "errors.errorString") (by kernel_rfl) (by kernel_rfl) (by decide) u h

/-- WHAT 'laid' GIVES: the two sentinels of package io as they lie when the call begins. -/
theorem glob_of_laid {W : World} (hL : laidMet Ybaf.prog [("io.EOF", Rows.laid_io_EOF), ("io.ErrUnexpectedEOF", Rows.laid_io_ErrUnexpectedEOF)] W) :
    ∃ a s0 c t, Glob W W.heap.size a s0 ∧ W.heap[a.block]? = some (.cells c t (0, 0)) := by
  obtain ⟨a0, a1, s0, s1, c0, c1, t0, t1, hv0, hv1, hc0, hs0, hz0, hc1, hs1, hz1, hne, hb0, hb1⟩ :=
    laid_sentinels2 hL Ybaf.gE Ybaf.gEType Ybaf.gU Ybaf.gUType Ybaf.underlying29 Ybaf.row69 Ybaf.underlying69 Ybaf.underlying71 rfl rfl Ybaf.underlying9 Ybaf.cells71 Ybaf.cells9
  have hg2 : W.cell? ⟨2, 0, none⟩ = some (.iface 69 (.pointer (some a0))) := by simpa using World.var?_cell Ybaf.gE hv0 0
  have hg0 : W.cell? ⟨0, 0, none⟩ = some (.iface 69 (.pointer (some a1))) := by simpa using World.var?_cell Ybaf.gU hv1 0
  have h2 : 2 < W.heap.size := by
    rcases Nat.lt_or_ge 2 W.heap.size with h | h
    · exact h
    · simp [World.cell?, Array.getElem?_eq_none h] at hg2
  exact ⟨a1, s1, c1, t1, ⟨h2, ⟨_, hg2⟩, hg0, hc1, (Array.getElem?_eq_some_iff.1 hb1).1⟩, hb1⟩

/-- WHAT THE ARGUMENT '[]byte' GIVES: its bytes as they lie. -/
theorem src_of_trod {H : Type} {enc : TypeId × Value → H} {W : World} {a0 : Option Addr} {len cap : Nat} {d : DataW H} {p : List MemPlace}
    (h : DataW.Trod enc Ybaf.prog W 0 (fun _ => true) true 22 (.slice a0 len cap) d p) (hl : len ≤ 1024) : ∃ zs, Src W W.heap.size a0 len cap zs ∧ ∀ n ∈ zs, (Lit.int .u8 n).wf = true := by
  obtain ⟨fuel, hf⟩ := h
  rcases open_ints Ybaf.underlying22 Ybaf.underlying5 Ybaf.cells5 hf with ⟨hcs, _⟩ | ⟨x, l, c, zs, hcs, _, hlc, hm, hz, _, hcell, hwz⟩
  · simp [Value.cells] at hcs
    obtain ⟨rfl, rfl, rfl⟩ := hcs
    exact ⟨[], ⟨rfl, by omega, Nat.le_refl _, by unfold maxLen; omega, fun h => by omega⟩, fun n hn => by cases hn⟩
  · simp [Value.cells] at hcs
    obtain ⟨rfl, rfl, rfl⟩ := hcs
    have hz' : zs.length = cap := by simpa using hz
    refine ⟨zs.take len, ⟨by simp; omega, hl, hlc, hm, fun hpos => ?_⟩, fun n hn => hwz n (List.mem_of_mem_take hn)⟩
    obtain ⟨b, off, rfl, hc⟩ := ints_at hcell (by omega)
    have hb : b < W.heap.size := by
      have h0 := hc 0 (by omega)
      rcases Nat.lt_or_ge b W.heap.size with h | h
      · exact h
      · simp [World.cell?, Array.getElem?_eq_none h] at h0
    refine ⟨b, off, rfl, hb, fun j hj => ?_⟩
    rw [hc j (by omega)]
    simp [List.getD, hj]

end Go.Proofs.YbulklyFmt
