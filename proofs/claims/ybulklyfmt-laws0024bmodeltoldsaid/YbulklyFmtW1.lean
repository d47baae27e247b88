import Derived.Test.YbulklyFmtFacts
import Derived.WalkKit
import Derived.WalkSpells
import Derived.WalkSmall
import Derived.BigQuiet
import Derived.Deep.QuietTactic
import Derived.Deep.RegionWith
import Derived.Deep.RegionLaw
import Derived.Laws.CopyOwn
namespace Go.Proofs.YbulklyFmt
set_option linter.unusedVariables false
open Go.RowKit Go.Extern.Stop Go.Stop Go.Extern
attribute [local go_sem] Ybaf.call36 Ybaf.guard Ybaf.fmt0 Ybaf.fmt0r Ybaf.fmt1 Ybaf.fmt1r Ybaf.fmt2 Ybaf.fmt2r Ybaf.fmt3 Ybaf.fmt3r Ybaf.op9_115w Ybaf.strict9 Ybaf.op3_100w Ybaf.strict3 Ybaf.ptr69 Ybaf.elem69 Ybaf.ptr95 Ybaf.elem95 Ybaf.isError69' Ybaf.isError95'

theorem hide {p : Prop} (h : p) : Hid p := h

/-- A decoder's block: the reader's slice, its place, its mark, the failure. -/
def Dec (w : World) (d : Nat) (sl : Value) (i pr : Int) (er : Value) : Prop :=
  w.heap[d]? = some (.cells #[sl, .int .i64 i, .int .i64 pr, er] 35 (0, 0))

theorem Dec.c0 {w : World} {d : Nat} {sl : Value} {i pr : Int} {er : Value} (h : Dec w d sl i pr er) : w.cell? ⟨d, 0, none⟩ = some sl := by
  simp [World.cell?, show w.heap[d]? = _ from h]
theorem Dec.c1 {w : World} {d : Nat} {sl : Value} {i pr : Int} {er : Value} (h : Dec w d sl i pr er) : w.cell? ⟨d, 1, none⟩ = some (.int .i64 i) := by
  simp [World.cell?, show w.heap[d]? = _ from h]
theorem Dec.c2 {w : World} {d : Nat} {sl : Value} {i pr : Int} {er : Value} (h : Dec w d sl i pr er) : w.cell? ⟨d, 2, none⟩ = some (.int .i64 pr) := by
  simp [World.cell?, show w.heap[d]? = _ from h]
theorem Dec.c3 {w : World} {d : Nat} {sl : Value} {i pr : Int} {er : Value} (h : Dec w d sl i pr er) : w.cell? ⟨d, 3, none⟩ = some er := by
  simp [World.cell?, show w.heap[d]? = _ from h]
theorem Dec.fr {w : World} {d : Nat} {sl : Value} {i pr : Int} {er : Value} (h : Dec w d sl i pr er) (o : Nat) : w.frozen? ⟨d, o, none⟩ = false := by
  simp [World.frozen?, show w.heap[d]? = _ from h]
theorem Dec.lt {w : World} {d : Nat} {sl : Value} {i pr : Int} {er : Value} (h : Dec w d sl i pr er) : d < w.heap.size := (Array.getElem?_eq_some_iff.1 h).1
theorem Dec.set1 {w : World} {d : Nat} {sl : Value} {i pr : Int} {er : Value} (h : Dec w d sl i pr er) (j : Int) : Dec (w.setCell ⟨d, 1, none⟩ (.int .i64 j)) d sl j pr er := by
  have h' : w.heap[d]? = _ := h
  show (w.setCell _ _).heap[d]? = _
  rw [setCell_eq_setRow w d 1 _ _ _ _ h', setRow_heap w d _ _ _ _ h']; rfl
theorem Dec.set2 {w : World} {d : Nat} {sl : Value} {i pr : Int} {er : Value} (h : Dec w d sl i pr er) (j : Int) : Dec (w.setCell ⟨d, 2, none⟩ (.int .i64 j)) d sl i j er := by
  have h' : w.heap[d]? = _ := h
  show (w.setCell _ _).heap[d]? = _
  rw [setCell_eq_setRow w d 2 _ _ _ _ h', setRow_heap w d _ _ _ _ h']; rfl
theorem Dec.set3 {w : World} {d : Nat} {sl : Value} {i pr : Int} {er : Value} (h : Dec w d sl i pr er) (x : Value) : Dec (w.setCell ⟨d, 3, none⟩ x) d sl i pr x := by
  have h' : w.heap[d]? = _ := h
  show (w.setCell _ _).heap[d]? = _
  rw [setCell_eq_setRow w d 3 _ _ _ _ h', setRow_heap w d _ _ _ _ h']; rfl
theorem Dec.drew {w : World} {d : Nat} {sl : Value} {i pr : Int} {er : Value} (h : Dec w d sl i pr er) : Dec w.drew d sl i pr er := h
theorem Dec.drewN {w : World} {d : Nat} {sl : Value} {i pr : Int} {er : Value} (h : Dec w d sl i pr er) (n : Nat) : Dec (w.drewN n) d sl i pr er := h
theorem Dec.below {w w' : World} {B d : Nat} {sl : Value} {i pr : Int} {er : Value} (h : Dec w d sl i pr er) (hb : Below B w w') (hd : d < B) : Dec w' d sl i pr er :=
  (hb.block d hd).trans h

set_option maxHeartbeats 400000 in
theorem newDecoder_any (sl : Option Addr) (len cap : Nat) (w : World) :
    Calls Ybaf.prog 8 #[.slice sl len cap] w fun e w' => e = .returned (.pointer (some ⟨w.heap.size, 0, none⟩)) ∧ w' = w.alloc (.cells #[.slice sl len cap, .int .i64 0, .int .i64 (-1), .nilIface] 35) := by
  go_enter Ybaf.func8, Ybaf.ntmps8
  go_wp2
  go_end0
  go_wp2
  go_ret
  exact ⟨rfl, rfl⟩

set_option maxHeartbeats 400000 in
theorem err_any (d : Nat) (sl : Value) (i pr : Int) (er : Value) (w : World) (hD : Dec w d sl i pr er) :
    Calls Ybaf.prog 10 #[.pointer (some ⟨d, 0, none⟩)] w fun e w' => e = .returned er ∧ w' = w := by
  have h3 := hD.c3
  go_enter Ybaf.func10, Ybaf.ntmps10
  go_wp2
  go_ret
  exact ⟨rfl, rfl⟩

set_option maxHeartbeats 400000 in
theorem len_any (d : Nat) (sl : Option Addr) (len cap : Nat) (i pr : Int) (er : Value) (w : World) (hD : Dec w d (.slice sl len cap) i pr er) (hi : 0 ≤ i) (hl : i ≤ len) (hm : len ≤ 1024) :
    Calls Ybaf.prog 12 #[.pointer (some ⟨d, 0, none⟩)] w fun e w' => e = .returned (.int .i64 (len - i)) ∧ ∃ n, w' = w.drewN n := by
  have h0 := hD.c0
  have h1 := hD.c1
  go_enter Ybaf.func12, Ybaf.ntmps12
  go_wp2
  go_quiet (fail)
  go_wp2
  · go_ret
    exact ⟨by simp; omega, _, rfl⟩
  · go_quiet (fail)
    go_wp2
    go_ret
    exact ⟨rfl, _, World.drewN_drewN _ _ _⟩

/-- the reader is at its end: nothing turns. -/
theorem read_end (d : Nat) (sl : Option Addr) (len cap : Nat) (i pr : Int) (er : Value) (dst : Value) (eof : Value) (w : World) (hD : Dec w d (.slice sl len cap) i pr er) (hi : i = len)
    (he : w.cell? ⟨2, 0, none⟩ = some eof) :
    Calls Ybaf.prog 35 #[.pointer (some ⟨d, 0, none⟩), dst] w fun e w' => e = .returned (.tuple #[.int .i64 0, eof]) ∧ ∃ n, w' = w.drewN n := by
  have h0 := hD.c0
  have h1 := hD.c1
  subst hi
  go_enter Ybaf.func35, Ybaf.ntmps35
  go_wp2
  go_quiet (fail)
  go_wp2
  go_quiet (fail)
  go_wp2
  go_ret2
  exact ⟨rfl, _, World.drewN_drewN _ _ _⟩

/-- the bytes that a read takes. -/
def took (zs : List Int) (i n : Nat) : List Value := (List.range n).map fun j => .int .u8 (zs.getD (i + j) 0)
theorem took_length (zs : List Int) (i n : Nat) : (took zs i n).length = n := by simp [took]
theorem took_one (zs : List Int) (i n : Nat) : ∀ v ∈ took zs i n, v.oneCell' = true := by
  intro v hv
  obtain ⟨j, _, rfl⟩ := List.mem_map.1 hv
  rfl
theorem took_at (zs : List Int) (i n j : Nat) (v : Value) (h : (took zs i n)[j]? = some v) : j < n ∧ v = .int .u8 (zs.getD (i + j) 0) := by
  have hj : j < n := by
    have := (List.getElem?_eq_some_iff.1 h).1
    simpa [took_length] using this
  refine ⟨hj, ?_⟩
  simp [took, hj] at h
  simpa using h.symm

set_option maxHeartbeats 1000000 in
theorem read_some (d sb so g m n : Nat) (len cap i : Nat) (pr : Int) (er : Value) (zs : List Int) (cur : List Value) (t : TypeId) (w : World)
    (hD : Dec w d (.slice (some ⟨sb, so, none⟩) len cap) i pr er) (hi : i < len) (hm : len ≤ 1024) (hcap : len ≤ cap) (hcm : cap ≤ maxLen)
    (hsrc : ∀ j, j < len → w.cell? ⟨sb, so + j, none⟩ = some (.int .u8 (zs.getD j 0))) (hsd : sb < d) (hdg : d < g)
    (hg : w.heap[g]? = some (.cells cur.toArray t (0, 0))) (hcur : cur.length = m) (hm8 : m ≤ 8) (hn : n = Nat.min (len - i) m) :
    Calls Ybaf.prog 35 #[.pointer (some ⟨d, 0, none⟩), .slice (some ⟨g, 0, none⟩) m m] w fun e w' => e = .returned (.tuple #[.int .i64 n, .nilIface]) ∧
      Dec w' d (.slice (some ⟨sb, so, none⟩) len cap) (i + n : Nat) (-1) er ∧ w'.heap[g]? = some (.cells (splice cur 0 (took zs i n)).toArray t (0, 0)) ∧ Below d w w' := by
  have h0 := hD.c0
  have h1 := hD.c1
  have h2 := hD.c2
  have hf2 := hD.fr 2
  have hf1 := hD.fr 1
  unfold maxLen at hcm
  have hnc : ¬ cap = i := by omega
  have hle : i ≤ len := by omega
  have hil : (i : Int) < len := by omega
  have hi0 : (0 : Int) ≤ i := by omega
  have hic : (i : Int) ≤ cap := by omega
  go_enter Ybaf.func35, Ybaf.ntmps35
  go_wp2
  go_quiet (fail)
  go_wp2
  have D2 := (hD.drewN nq).set2 (-1)
  have hb2 : Below d w ((w.drewN nq).setCell ⟨d, 2, none⟩ (.int .i64 (-1))) := (below_drewN (Below.refl d w) nq).setCell (p := ⟨d, 2, none⟩) (Nat.le_refl d) _
  have hg2 : ((w.drewN nq).setCell ⟨d, 2, none⟩ (.int .i64 (-1))).heap[g]? = some (.cells cur.toArray t (0, 0)) := by
    rw [Below.heap_setCell _ _ _ _ (by simp; omega)]; exact hg
  clear hg h0 h1 h2 hf1 hf2
  generalize (w.drewN nq).setCell ⟨d, 2, none⟩ (.int .i64 (-1)) = W1 at *
  have k0 := D2.c0
  have k1 := D2.c1
  have hsr : ∀ j v, (took zs i n)[j]? = some v → W1.cell? ((⟨sb, so + i, none⟩ : Addr).add j) = some v := by
    intro j v hj
    obtain ⟨h1, rfl⟩ := took_at _ _ _ _ _ hj
    have h2 : j < len - i := Nat.lt_of_lt_of_le h1 (by rw [hn]; exact Nat.min_le_left _ _)
    have h3 := hsrc (i + j) (by omega)
    have h4 : W1.cell? ⟨sb, so + (i + j), none⟩ = w.cell? ⟨sb, so + (i + j), none⟩ := hb2.cell (p := ⟨sb, so + (i + j), none⟩) hsd
    rw [show (⟨sb, so + i, none⟩ : Addr).add j = ⟨sb, so + (i + j), none⟩ by simp [Addr.add, Nat.add_assoc]]
    rw [h4, h3]
  have HS := hide hsr
  have hnle : n ≤ 8 := by rw [hn]; exact Nat.le_trans (Nat.min_le_right _ _) hm8
  have HN := hide hn
  clear hn
  have HG := hide hg2
  have HB := hide hb2
  clear hsr hg2 hb2
  go_region_law (refine step_copy_splice rfl (.tmp 20) (.tmp 29) 22 22 rfl 5 Ybaf.underlying22 (by kernel_rfl) (some ⟨g, 0, none⟩) (some ⟨sb, so + i, none⟩) m m (len - i) (cap - i) (by simp [Act.eval, Act.put]) (by simp [Act.eval, Act.put]) g 0 cur t (HG.out) (took zs i n) (by rw [took_length]; exact HN.out) (fun _ => ⟨rfl, _, rfl, HS.out⟩) (by rw [took_length, hcur, HN.out]; exact (Nat.zero_add _).symm ▸ Nat.min_le_right _ _) (took_one _ _ _) g W1 (Below.refl _ _).drew (Nat.le_refl _) ?_; intro w3 hg3 hb3)
  all_goals
    have D3 := D2.below hb3 hdg
    have l1 := D3.c1
    have lf := D3.fr 1
    have hb4 : Below d w w3 := HB.out.trans (hb3.mono (Nat.le_of_lt hdg))
    have HB4 := hide hb4
    clear hb4 hb3 k0 k1 hil hi0 hic
    simp only [took_length]
    go_wp2
    go_ret2
    refine ⟨rfl, ?_, ?_, HB4.out.setCell (p := ⟨d, 1, none⟩) (Nat.le_refl d) _⟩
    · have := D3.set1 (i + n)
      simpa using this
    · rw [Below.heap_setCell _ _ _ _ (by simp; omega)]; exact hg3.out
end Go.Proofs.YbulklyFmt
