import Derived.Test.YbulkocB1
import Derived.WalkKit
import Derived.ProofKit
import Derived.Deep.Slices
import Derived.Maps.Keyed
import Derived.Maps.OwnSet
import Derived.WideKeyElems2
namespace Go.Proofs.Ybulkoc
open Go.ChangeShapes Go.WideShapes Go.ChangeAt Go.RowKit Go.Deep
set_option linter.unusedVariables false

section
variable {H : Type} {enc : TypeId × Value → H} {w : World} {base : Nat} {spare : Nat → Bool} {held : Bool}

theorem cells_of54 : Yba.prog.cellsOf 54 = 2 := by kernel_rfl
theorem cells_of58 : Yba.prog.cellsOf 58 = 4 := by kernel_rfl
theorem cells_of5 : Yba.prog.cellsOf 5 = 1 := by kernel_rfl
theorem cells_of52 : Yba.prog.cellsOf 52 = 1 := by kernel_rfl
theorem cells_of9 : Yba.prog.cellsOf 9 = 1 := by kernel_rfl

theorem rng_u8 {n : Int} (h : (Lit.int .u8 n).wf = true) : 0 ≤ n ∧ n ≤ 255 := by
  simp [Lit.wf, IntKind.min, IntKind.max, IntKind.signed, IntKind.bits] at h
  omega
theorem rng_i16 {n : Int} (h : (Lit.int .i16 n).wf = true) : -32768 ≤ n ∧ n ≤ 32767 := by
  simp [Lit.wf, IntKind.min, IntKind.max, IntKind.signed, IntKind.bits] at h
  omega

set_option maxRecDepth 100000 in
/-- One Crash that came in. -/
theorem open54 {n : Nat} {cs : List Value} {x : DataW H × List MemPlace} (h : DataW.trod enc Yba.prog w base spare held n 54 cs = some x) :
    ∃ c : Int × Int, cs = [.int .u8 c.1, .int .i16 c.2] ∧ 0 ≤ c.1 ∧ c.1 ≤ 255 ∧ -32768 ≤ c.2 ∧ c.2 ≤ 32767 := by
  obtain ⟨y0, y1, m, rfl, hl, h0, h1⟩ := trod_struct2 Yba.underlying54 h
  rw [cells_of54] at hl
  match cs, hl with
  | [c0, c1], _ =>
    rw [cells_of5] at h0
    rw [cells_of52] at h1
    simp at h0 h1
    obtain ⟨a, ha, _, wa⟩ := DataW.trod_int Yba.underlying5 h0
    obtain ⟨b, hb, _, wb⟩ := DataW.trod_int Yba.underlying52 h1
    simp at ha hb
    subst ha hb
    exact ⟨(a, b), rfl, (rng_u8 wa).1, (rng_u8 wa).2, (rng_i16 wb).1, (rng_i16 wb).2⟩

set_option maxRecDepth 100000 in
/-- One Restart that came in. -/
theorem open58 {n : Nat} {cs : List Value} {x : DataW H × List MemPlace} (h : DataW.trod enc Yba.prog w base spare held n 58 cs = some x) :
    ∃ c : Int × Int × Int × ByteArray, cs = [.int .u8 c.1, .int .i16 c.2.1, .int .i16 c.2.2.1, .string c.2.2.2] ∧ 0 ≤ c.1 ∧ c.1 ≤ 255 ∧ -32768 ≤ c.2.1 ∧ c.2.1 ≤ 32767 ∧ -32768 ≤ c.2.2.1 ∧ c.2.2.1 ≤ 32767 := by
  obtain ⟨xs, m, _, rfl, hl, hlen, hf⟩ := DataW.trod_struct Yba.underlying58 h
  rw [cells_of58] at hl
  match cs, hl with
  | [c0, c1, c2, c3], _ =>
    have h0 := hf 0 _ rfl
    have h1 := hf 1 _ rfl
    have h2 := hf 2 _ rfl
    have h3 := hf 3 _ rfl
    match xs, hlen with
    | [y0, y1, y2, y3], _ =>
      simp [cells_of5, cells_of52, cells_of9] at h0 h1 h2 h3
      obtain ⟨a, ha, _, wa⟩ := DataW.trod_int Yba.underlying5 h0
      obtain ⟨b, hb, _, wb⟩ := DataW.trod_int Yba.underlying52 h1
      obtain ⟨c, hc, _, wc⟩ := DataW.trod_int Yba.underlying52 h2
      obtain ⟨s, hs, _, _⟩ := DataW.trod_string Yba.underlying9 h3
      simp at ha hb hc hs
      subst ha hb hc hs
      exact ⟨(a, b, c, s), rfl, (rng_u8 wa).1, (rng_u8 wa).2, (rng_i16 wb).1, (rng_i16 wb).2, (rng_i16 wc).1, (rng_i16 wc).2⟩

theorem lt_of_cell {w : World} {a : Addr} {v : Value} (h : w.cell? a = some v) : a.block < w.heap.size := World.block_lt_of_cell? w _ h

/-- The Crashes, read. -/
theorem read_C {fuel : Nat} {a : Option Addr} {len cap : Nat} {x : DataW H × List MemPlace} (h : DataW.trod enc Yba.prog w base spare held fuel 22 (Value.slice a len cap).cells.toList = some x) :
    len ≤ cap ∧ ∃ C, InC w a len C := by
  rcases open_slice Yba.underlying22 h with ⟨h1, _⟩ | ⟨b, l, c, m, n, D, Pl, h1, hb, hl, hm, hmm, rfl, hx⟩
  · simp [Value.cells] at h1
    obtain ⟨rfl, rfl, rfl⟩ := h1
    exact ⟨Nat.le_refl _, [], rfl, fun h => by omega, fun i => by simp⟩
  · simp [Value.cells] at h1
    obtain ⟨rfl, rfl, rfl⟩ := h1
    refine ⟨hl, ?_⟩
    have hlm : len ≤ m := by rw [hmm]; split <;> omega
    rw [cells_of54] at hx
    obtain ⟨f, hf⟩ := choose_lt (n := len) (α := Int × Int) (p := fun i c => (0 ≤ c.1 ∧ c.1 ≤ 255 ∧ -32768 ≤ c.2 ∧ c.2 ≤ 32767) ∧ w.cell? (b.add (i * 2)) = some (.int .u8 c.1) ∧ w.cell? (b.add (i * 2 + 1)) = some (.int .i16 c.2)) (fun i hi => by
      obtain ⟨cs', k1, k2⟩ := hx i (by omega)
      obtain ⟨c, rfl, r⟩ := open54 k2
      obtain ⟨_, _, k3⟩ := World.cells?_some k1
      have e0 := k3 0 (by omega)
      have e1 := k3 1 (by omega)
      rw [add_add] at e0 e1
      exact ⟨c, r, by simpa using e0, by simpa using e1⟩)
    have hg : ∀ i, ((List.range len).map f).getD i (0, 0) = if i < len then f i else (0, 0) := fun i => by
      rw [List.getD]
      by_cases hi : i < len
      · simp [hi]
      · simp [hi]
    refine ⟨(List.range len).map f, by simp, fun hpos => ?_, fun i => ?_⟩
    · obtain ⟨bb, off, spot⟩ := b
      have hspot : spot = none := by simpa [Addr.add] using World.cell?_spot (hf 0 hpos).2.1
      subst hspot
      refine ⟨bb, off, rfl, by simpa [Addr.add] using lt_of_cell (hf 0 hpos).2.1, fun i hi => ?_⟩
      have h2 := (hf i hi).2
      rw [Go.WideShapes.add_plain, Go.WideShapes.add_plain, ← Nat.add_assoc] at h2
      rw [hg, if_pos hi]
      exact h2
    · rw [hg]
      by_cases hi : i < len
      · rw [if_pos hi]; exact (hf i hi).1
      · rw [if_neg hi]; simp

/-- The Restarts, read. -/
theorem read_R {fuel : Nat} {a : Option Addr} {len cap : Nat} {x : DataW H × List MemPlace} (h : DataW.trod enc Yba.prog w base spare held fuel 23 (Value.slice a len cap).cells.toList = some x) :
    len ≤ cap ∧ ∃ R, InR w a len R := by
  rcases open_slice Yba.underlying23 h with ⟨h1, _⟩ | ⟨b, l, c, m, n, D, Pl, h1, hb, hl, hm, hmm, rfl, hx⟩
  · simp [Value.cells] at h1
    obtain ⟨rfl, rfl, rfl⟩ := h1
    exact ⟨Nat.le_refl _, [], rfl, fun h => by omega, fun i => by simp⟩
  · simp [Value.cells] at h1
    obtain ⟨rfl, rfl, rfl⟩ := h1
    refine ⟨hl, ?_⟩
    have hlm : len ≤ m := by rw [hmm]; split <;> omega
    rw [cells_of58] at hx
    obtain ⟨f, hf⟩ := choose_lt (n := len) (α := Int × Int × Int × ByteArray) (p := fun i c => (0 ≤ c.1 ∧ c.1 ≤ 255 ∧ -32768 ≤ c.2.1 ∧ c.2.1 ≤ 32767 ∧ -32768 ≤ c.2.2.1 ∧ c.2.2.1 ≤ 32767) ∧ w.cell? (b.add (i * 4)) = some (.int .u8 c.1) ∧ w.cell? (b.add (i * 4 + 1)) = some (.int .i16 c.2.1) ∧ w.cell? (b.add (i * 4 + 2)) = some (.int .i16 c.2.2.1) ∧ w.cell? (b.add (i * 4 + 3)) = some (.string c.2.2.2)) (fun i hi => by
      obtain ⟨cs', k1, k2⟩ := hx i (by omega)
      obtain ⟨c, rfl, r⟩ := open58 k2
      obtain ⟨_, _, k3⟩ := World.cells?_some k1
      have e0 := k3 0 (by omega)
      have e1 := k3 1 (by omega)
      have e2 := k3 2 (by omega)
      have e3 := k3 3 (by omega)
      rw [add_add] at e0 e1 e2 e3
      exact ⟨c, r, by simpa using e0, by simpa using e1, by simpa using e2, by simpa using e3⟩)
    have hg : ∀ i, ((List.range len).map f).getD i (0, 0, 0, .empty) = if i < len then f i else (0, 0, 0, .empty) := fun i => by
      rw [List.getD]
      by_cases hi : i < len
      · simp [hi]
      · simp [hi]
    refine ⟨(List.range len).map f, by simp, fun hpos => ?_, fun i => ?_⟩
    · obtain ⟨bb, off, spot⟩ := b
      have hspot : spot = none := by simpa [Addr.add] using World.cell?_spot (hf 0 hpos).2.1
      subst hspot
      refine ⟨bb, off, rfl, by simpa [Addr.add] using lt_of_cell (hf 0 hpos).2.1, fun i hi => ?_⟩
      have h2 := (hf i hi).2
      rw [Go.WideShapes.add_plain, Go.WideShapes.add_plain, Go.WideShapes.add_plain, Go.WideShapes.add_plain, ← Nat.add_assoc, ← Nat.add_assoc, ← Nat.add_assoc] at h2
      rw [hg, if_pos hi]
      exact h2
    · rw [hg]
      by_cases hi : i < len
      · rw [if_pos hi]; exact (hf i hi).1
      · rw [if_neg hi]; simp

theorem keyed3 : Go.Maps.Keyed Yba.prog 3 := Go.Maps.int_keyed Yba.underlying3

theorem zero9 (w : World) : (zeroValue 9).run Yba.prog w = .ok (.string .empty) w := by
  kernel_rfl

/-- The map, read: at each key a string, and the same in every world that keeps what was there. -/
theorem read_M {fuel : Nat} {a : Option Nat} {x : DataW H × List MemPlace} (h : DataW.trod enc Yba.prog w base spare held fuel 24 (Value.map a).cells.toList = some x) :
    ∃ PV : Nat → ByteArray, ∀ wx, Below w.heap.size w wx → ∀ k : Nat, 1 ≤ k → k ≤ 8 → (Instr.lookup 24 (.map a) (.int .i64 (k : Int)) false).run Yba.prog wx = .ok (.string (PV k)) wx := by
  have hkey : ∀ k : Nat, k ≤ 8 → keyOf Yba.prog 3 (.int .i64 (k : Int)) = some (.int .i64 (k : Int)) := fun k hk => Go.Maps.keyOf_int_mk Yba.underlying3 (by simp [Lit.wf, IntKind.min, IntKind.max, IntKind.signed, IntKind.bits]; omega)
  rcases Go.WideElems.open_map Yba.underlying24 h with ⟨h1, _⟩ | ⟨b, es, clock, n, rfl, h1, h2, h3, F, _⟩
  · simp [Value.cells] at h1
    subst h1
    refine ⟨fun _ => .empty, fun wx hb k hk1 hk2 => ?_⟩
    exact Go.Maps.look_nil false keyed3 Yba.underlying24 (zero9 wx) (hkey k hk2)
  · simp [Value.cells] at h1
    subst h1
    have str : ∀ {v : Value} {y : DataW H × List MemPlace}, Go.WideElems.elemAt enc Yba.prog w base spare held n 9 v = some y → ∃ s : ByteArray, v = .string s ∧ y.1 = .lit (.string s.data.toList) := fun {v y} hv => by
      unfold Go.WideElems.elemAt at hv
      split at hv
      · rename_i hform
        obtain ⟨s, k1, rfl, _⟩ := DataW.trod_string Yba.underlying9 hv
        refine ⟨s, ?_, rfl⟩
        cases v <;> simp_all [Value.cells, Value.formed, Yba.underlying9]
      · cases hv
    obtain ⟨PV, hPV⟩ := choose_lt (n := 9) (α := ByteArray) (p := fun k s => ∀ wx, Below w.heap.size w wx → (Instr.lookup 24 (.map (some b)) (.int .i64 (k : Int)) false).run Yba.prog wx = .ok (.string s) wx) (fun k hk => by
      rcases Go.Maps.fit_look false keyed3 Yba.underlying24 (zero9 w) h2 F (hkey k (by omega)) with ⟨_, no, _⟩ | ⟨e0, y, hm0, he0, _, hR, hat, _⟩
      · refine ⟨.empty, fun wx hb => ?_⟩
        have hbl : b < w.heap.size := (Array.getElem?_eq_some_iff.1 h2).1
        rcases Go.Maps.fit_look false keyed3 Yba.underlying24 (zero9 wx) ((hb.block b hbl).trans h2) F (hkey k (by omega)) with ⟨q1, _, _⟩ | ⟨e1, y1, hm1, he1, _⟩
        · exact q1
        · exact absurd he1 (no e1 hm1)
      · obtain ⟨s, hs, hy⟩ := str hR
        refine ⟨s, fun wx hb => ?_⟩
        have hbl : b < w.heap.size := (Array.getElem?_eq_some_iff.1 h2).1
        rcases Go.Maps.fit_look false keyed3 Yba.underlying24 (zero9 wx) ((hb.block b hbl).trans h2) F (hkey k (by omega)) with ⟨_, no, _⟩ | ⟨e1, y1, hm1, he1, q1, hR1, hat1, _⟩
        · exact absurd he0 (no e0 hm0)
        · obtain ⟨s1, hs1, hy1⟩ := str hR1
          have e : y.1 = y1.1 := (hat .nil).symm.trans (hat1 .nil)
          rw [hy, hy1] at e
          have e2 : s = s1 := by
            cases s; cases s1
            simp at e
            simp [e]
          rw [q1, hs1, e2]
          rfl)
    exact ⟨PV, fun wx hb k hk1 hk2 => hPV k (by omega) wx hb⟩
end
end Go.Proofs.Ybulkoc
