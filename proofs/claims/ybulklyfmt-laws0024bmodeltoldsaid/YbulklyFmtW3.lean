import Derived.Test.YbulklyFmtW2
namespace Go.Proofs.YbulklyFmt
set_option linter.unusedVariables false
open Go.RowKit Go.Extern.Stop Go.Stop Go.Extern

/-- The payload as the decoder's slice shows it: 'zs' its bytes. -/
structure Src (w : World) (d : Nat) (sl : Option Addr) (len cap : Nat) (zs : List Int) : Prop where
  hsize : zs.length = len
  hsmall : len ≤ 1024
  hcap : len ≤ cap
  hmax : cap ≤ maxLen
  hcells : 0 < len → ∃ sb so, sl = some ⟨sb, so, none⟩ ∧ sb < d ∧ ∀ j, j < len → w.cell? ⟨sb, so + j, none⟩ = some (.int .u8 (zs.getD j 0))

theorem Src.below {w w' : World} {d len cap : Nat} {sl : Option Addr} {zs : List Int} (h : Src w d sl len cap zs) (hb : Below d w w') : Src w' d sl len cap zs :=
  ⟨h.hsize, h.hsmall, h.hcap, h.hmax, fun hl => by
    obtain ⟨sb, so, e, hlt, hc⟩ := h.hcells hl
    exact ⟨sb, so, e, hlt, fun j hj => (hb.cell (p := ⟨sb, so + j, none⟩) hlt).trans (hc j hj)⟩⟩

/-- The two sentinels of package io as they lie. -/
structure Glob (w : World) (d : Nat) (a : Addr) (s0 : ByteArray) : Prop where
  two : 2 < d
  eof : ∃ v, w.cell? ⟨2, 0, none⟩ = some v
  une : w.cell? ⟨0, 0, none⟩ = some (.iface 69 (.pointer (some a)))
  txt : w.cell? a = some (.string s0)
  lt : a.block < d

theorem Glob.below {w w' : World} {d : Nat} {a : Addr} {s0 : ByteArray} (h : Glob w d a s0) (hb : Below d w w') : Glob w' d a s0 :=
  ⟨h.two, by obtain ⟨v, hv⟩ := h.eof; exact ⟨v, (hb.cell (p := ⟨2, 0, none⟩) h.two).trans hv⟩, (hb.cell (p := ⟨0, 0, none⟩) (Nat.lt_trans (by decide) h.two)).trans h.une, (hb.cell h.lt).trans h.txt, h.lt⟩

/-- What a read leaves in the decoder: the bytes were there, or the failure is laid. -/
def ReadOut (w' : World) (d : Nat) (sl : Value) (len i m : Nat) (a : Addr) : Prop :=
  (i + m ≤ len ∧ Dec w' d sl (i + m : Nat) (-1) .nilIface) ∨
  (len < i + m ∧ ∃ k pr', Dec w' d sl len pr' (.iface 95 (.pointer (some ⟨k, 0, none⟩))) ∧ d < k ∧ w'.cell? ⟨k, 1, none⟩ = some (.iface 69 (.pointer (some a))) ∧ k < w'.heap.size)

theorem ReadOut.below {w w' : World} {B d : Nat} {sl : Value} {len i m : Nat} {a : Addr} (h : ReadOut w d sl len i m a) (hb : Below B w w') (hd : d < B) (hB : w.heap.size ≤ B) : ReadOut w' d sl len i m a := by
  rcases h with ⟨h1, h2⟩ | ⟨h1, k, pr', h2, h3, h4, h5⟩
  · exact Or.inl ⟨h1, h2.below hb hd⟩
  · exact Or.inr ⟨h1, k, pr', h2.below hb hd, h3, (hb.cell (p := ⟨k, 1, none⟩) (Nat.lt_of_lt_of_le h5 hB)).trans h4, Nat.lt_of_lt_of_le h5 hb.size⟩

theorem splice_whole (L cs : List Value) (h : cs.length = L.length) : splice L 0 cs = cs := by
  simp [splice, h]

theorem splice_short (zs : List Int) (i n m : Nat) (hn : i + n = zs.length) (hnm : n < m) : splice (List.replicate m (.int .u8 0)) 0 (took zs i n) = took zs i m := by
  apply List.ext_getElem?
  intro j
  simp only [splice, List.take_zero, List.nil_append, took_length, Nat.zero_add]
  rw [List.getElem?_append, took_length]
  by_cases hj : j < n
  · simp [hj, took, show j < m by omega]
  · simp only [hj, if_false]
    by_cases hjm : j < m
    · have h1 : zs.getD (i + j) 0 = 0 := by simp [List.getD, List.getElem?_eq_none (show zs.length ≤ i + j by omega)]
      rw [List.getElem?_drop, List.getElem?_replicate, if_pos (by omega)]
      simp only [took, List.getElem?_map, List.getElem?_range hjm, Option.map_some, h1]
    · rw [List.getElem?_drop, List.getElem?_replicate, if_neg (by omega), List.getElem?_eq_none (by rw [took_length]; omega)]

/-- 'fixed' of a decoder that has not failed: the bytes that are there go over; noughts behind the payload's end. -/
theorem fixed_any (F : Interp) (d g m : Nat) (sl : Option Addr) (len cap i : Nat) (pr : Int) (zs : List Int) (t : TypeId) (what : ByteArray) (a : Addr) (s0 : ByteArray) (w : World) (hF : F.answers w.tape)
    (hD : Dec w d (.slice sl len cap) i pr .nilIface) (hi : i ≤ len) (hS : Src w d sl len cap zs) (hG : Glob w d a s0) (hdg : d < g)
    (hg : w.heap[g]? = some (.cells (List.replicate m (.int .u8 0)).toArray t (0, 0))) (hm8 : m ≤ 8) (hm0 : 0 < m) :
    Calls Ybaf.prog 24 #[.pointer (some ⟨d, 0, none⟩), .slice (some ⟨g, 0, none⟩) m m, .string what] w fun e w' => e = .returned (.tuple #[]) ∧
      ReadOut w' d (.slice sl len cap) len i m a ∧ w'.heap[g]? = some (.cells (took zs i m).toArray t (0, 0)) ∧ Below d w w' := by
  obtain ⟨eof, he⟩ := hG.eof
  by_cases hil : i = len
  · subst hil
    refine (fixed_end F d g m sl cap i pr _ what eof a s0 w hF hD hm0 hdg hg he hG.une hG.txt hG.lt).mono ?_
    rintro e w' ⟨rfl, k, pr', h1, h2, h3, h4, h5, h6⟩
    refine ⟨rfl, Or.inr ⟨by omega, k, pr', h1, Nat.lt_trans hD.lt h2, h3, h4⟩, ?_, h6⟩
    rw [h5, ← splice_short zs i 0 m (by rw [hS.hsize]; rfl) hm0]
    simp [splice, took]
  · obtain ⟨sb, so, rfl, hsd, hc⟩ := hS.hcells (by omega)
    by_cases hfit : i + m ≤ len
    · refine (fixed_ok d sb so g m len cap i pr zs _ t what w hD hfit hS.hsmall hS.hcap hS.hmax hc hsd hdg hg (by simp) hm8 hm0).mono ?_
      rintro e w' ⟨rfl, h1, h2, h3⟩
      refine ⟨rfl, Or.inl ⟨hfit, h1⟩, ?_, h3⟩
      rw [h2, splice_whole _ _ (by simp [took_length])]
    · refine (fixed_part F d sb so g m (len - i) len cap i pr zs _ t what a s0 w hF hD (by omega) (by omega) (by omega) hS.hsmall hS.hcap hS.hmax hc hsd hdg hg (by simp) hm8 hG.two hG.une hG.txt hG.lt).mono ?_
      rintro e w' ⟨rfl, k, pr', h1, h2, h3, h4, h5, h6⟩
      refine ⟨rfl, Or.inr ⟨by omega, k, pr', h1, Nat.lt_trans hD.lt h2, h3, h4⟩, ?_, h6⟩
      rw [h5, splice_short zs i (len - i) m (by have := hS.hsize; omega) (by omega)]
end Go.Proofs.YbulklyFmt
