import Derived.Test.YbulklyFmtW1
namespace Go.Proofs.YbulklyFmt
set_option linter.unusedVariables false
open Go.RowKit Go.Extern.Stop Go.Stop Go.Extern
attribute [local go_sem] Ybaf.call36 Ybaf.guard Ybaf.fmt0 Ybaf.fmt0r Ybaf.fmt1 Ybaf.fmt1r Ybaf.fmt2 Ybaf.fmt2r Ybaf.fmt3 Ybaf.fmt3r Ybaf.op9_115w Ybaf.strict9 Ybaf.op3_100w Ybaf.strict3 Ybaf.ptr69 Ybaf.elem69 Ybaf.ptr95 Ybaf.elem95 Ybaf.isError69' Ybaf.isError95'

abbrev leftBytes : ByteArray := ⟨#[37, 100, 32, 98, 121, 116, 101, 115, 32, 108, 101, 102, 116, 32, 97, 102, 116, 101, 114, 32, 116, 104, 101, 32, 108, 97, 115, 116, 32, 118, 97, 108, 117, 101]⟩
abbrev endsBytes : ByteArray := ⟨#[112, 97, 121, 108, 111, 97, 100, 32, 101, 110, 100, 115, 32, 37, 100, 32, 98, 121, 116, 101, 115, 32, 105, 110, 116, 111, 32, 97, 32, 37, 115, 58, 32, 37, 119]⟩

set_option maxHeartbeats 400000 in
theorem errorf_left (F : Interp) (x : Int) (g : Nat) (w : World) (hF : F.answers w.tape) (h0 : w.cell? ⟨g, 0, none⟩ = some (.iface 3 (.int .i64 x))) :
    Calls Ybaf.prog 30 #[.string leftBytes, .slice (some ⟨g, 0, none⟩) 1 1] w fun e w' => e = .returned (.iface 69 (.pointer (some ⟨w.heap.size, 0, none⟩))) ∧ ∃ s, w' = (w.alloc (.cells #[.string s] 71)).drew := by
  have hF' := answers_open hF
  go_enter Ybaf.func30, Ybaf.ntmps30
  go_wp2
  go_ret
  exact ⟨rfl, _, rfl⟩

set_option maxHeartbeats 400000 in
theorem errorf_ends (F : Interp) (x : Int) (what : ByteArray) (a : Addr) (s0 : ByteArray) (g : Nat) (w : World) (hF : F.answers w.tape) (h0 : w.cell? ⟨g, 0, none⟩ = some (.iface 3 (.int .i64 x)))
    (h1 : w.cell? ⟨g, 1, none⟩ = some (.iface 9 (.string what))) (h2 : w.cell? ⟨g, 2, none⟩ = some (.iface 69 (.pointer (some a)))) (hs : w.cell? a = some (.string s0)) :
    Calls Ybaf.prog 30 #[.string endsBytes, .slice (some ⟨g, 0, none⟩) 3 3] w fun e w' => e = .returned (.iface 95 (.pointer (some ⟨w.heap.size, 0, none⟩))) ∧ ∃ s, w' = (w.alloc (.cells #[.string s, .iface 69 (.pointer (some a))] 146)).drew := by
  have hF' := answers_open hF
  have hop := Ybaf.opPlain69_119w "fmt.errorf" a s0 _ hs
  go_enter Ybaf.func30, Ybaf.ntmps30
  go_wp2
  go_ret
  exact ⟨rfl, _, rfl⟩

/-- 'End' of a decoder that has not failed and holds bytes yet. -/
theorem end_left (F : Interp) (d : Nat) (sl : Option Addr) (len cap : Nat) (i : Nat) (pr : Int) (w : World) (hF : F.answers w.tape) (hD : Dec w d (.slice sl len cap) i pr .nilIface) (hl : i < len) (hm : len ≤ 1024) :
    Calls Ybaf.prog 19 #[.pointer (some ⟨d, 0, none⟩)] w fun e w' => (∃ a, e = .returned (.iface 69 (.pointer (some a)))) ∧ Below w.heap.size w w' := by
  have h3 := hD.c3
  have hpos : (0 : Int) < (len : Int) - i := by omega
  go_enter Ybaf.func19, Ybaf.ntmps19
  go_wp2_with fail
  refine (len_any d sl len cap i pr .nilIface _ hD (by omega) (by omega) hm).mono ?_
  rintro e w' ⟨rfl, n1, rfl⟩
  go_wp2_with fail
  refine (len_any d sl len cap i pr .nilIface _ (hD.drewN _) (by omega) (by omega) hm).mono ?_
  rintro e w' ⟨rfl, n2, rfl⟩
  go_wp2_with fail
  refine (errorf_left F (len - i) _ _ (by exact hF) (by rw [World.cell?_alloc_at (hn := by simp)]; rfl)).mono ?_
  rintro e w' ⟨rfl, s, rfl⟩
  go_wp2
  go_ret
  exact ⟨⟨_, rfl⟩, ((((below_drewN (Below.refl _ w) _).alloc (Nat.le_refl _) _).alloc (by simp) _).drew)⟩

theorem end_none (d : Nat) (sl : Option Addr) (len cap : Nat) (i : Nat) (pr : Int) (w : World) (hD : Dec w d (.slice sl len cap) i pr .nilIface) (hl : i = len) (hm : len ≤ 1024) :
    Calls Ybaf.prog 19 #[.pointer (some ⟨d, 0, none⟩)] w fun e w' => e = .returned .nilIface ∧ ∃ n, w' = w.drewN n := by
  have h3 := hD.c3
  subst hl
  go_enter Ybaf.func19, Ybaf.ntmps19
  go_wp2_with fail
  refine (len_any d sl i cap i pr .nilIface _ hD (by omega) (by omega) hm).mono ?_
  rintro e w' ⟨rfl, n1, rfl⟩
  go_wp2
  go_ret
  exact ⟨rfl, _, rfl⟩

theorem end_err (d : Nat) (sl : Value) (i pr : Int) (T : TypeId) (x : Value) (w : World) (hD : Dec w d sl i pr (.iface T x)) :
    Calls Ybaf.prog 19 #[.pointer (some ⟨d, 0, none⟩)] w fun e w' => e = .returned (.iface T x) ∧ w' = w := by
  have h3 := hD.c3
  go_enter Ybaf.func19, Ybaf.ntmps19
  go_wp2
  go_ret
  exact ⟨rfl, rfl⟩

/-- 'fixed' of a decoder that has failed: nothing. -/
theorem fixed_err (d : Nat) (sl : Value) (i pr : Int) (T : TypeId) (x : Value) (b : Value) (what : ByteArray) (w : World) (hD : Dec w d sl i pr (.iface T x)) :
    Calls Ybaf.prog 24 #[.pointer (some ⟨d, 0, none⟩), b, .string what] w fun e w' => e = .returned (.tuple #[]) ∧ w' = w := by
  have h3 := hD.c3
  go_enter Ybaf.func24, Ybaf.ntmps24
  go_wp2
  exact bodyPost_ret (results_none (by rfl) _ _ _) rfl ⟨rfl, rfl⟩

/-- 'fixed' where the bytes are there. -/
theorem fixed_ok (d sb so g m : Nat) (len cap i : Nat) (pr : Int) (zs : List Int) (cur : List Value) (t : TypeId) (what : ByteArray) (w : World)
    (hD : Dec w d (.slice (some ⟨sb, so, none⟩) len cap) i pr .nilIface) (hi : i + m ≤ len) (hm : len ≤ 1024) (hcap : len ≤ cap) (hcm : cap ≤ maxLen)
    (hsrc : ∀ j, j < len → w.cell? ⟨sb, so + j, none⟩ = some (.int .u8 (zs.getD j 0))) (hsd : sb < d) (hdg : d < g)
    (hg : w.heap[g]? = some (.cells cur.toArray t (0, 0))) (hcur : cur.length = m) (hm8 : m ≤ 8) (hm0 : 0 < m) :
    Calls Ybaf.prog 24 #[.pointer (some ⟨d, 0, none⟩), .slice (some ⟨g, 0, none⟩) m m, .string what] w fun e w' => e = .returned (.tuple #[]) ∧
      Dec w' d (.slice (some ⟨sb, so, none⟩) len cap) (i + m : Nat) (-1) .nilIface ∧ w'.heap[g]? = some (.cells (splice cur 0 (took zs i m)).toArray t (0, 0)) ∧ Below d w w' := by
  have h3 := hD.c3
  go_enter Ybaf.func24, Ybaf.ntmps24
  go_wp2_with fail
  refine (read_some d sb so g m m len cap i pr .nilIface zs cur t _ hD (by omega) hm hcap hcm hsrc hsd hdg hg hcur hm8 (Nat.min_eq_right (by omega)).symm).mono ?_
  rintro e w' ⟨rfl, h⟩
  have H := hide h
  clear h
  go_wp2
  go_end0
  exact ⟨rfl, H.out⟩

theorem short_close {w w1 : World} {d g : Nat} {sl : Value} {i pr : Int} {X : Obj} (s : ByteArray) (a : Addr) (o1 : Obj) (D1 : Dec w1 d sl i pr .nilIface) (hb : Below d w w1) (hg : w1.heap[g]? = some X) (hdg : d < g) :
    Dec (((w1.setCell ⟨d, 3, none⟩ (.iface 95 (.pointer (some ⟨w1.heap.size + 1, 0, none⟩)))).alloc o1).alloc (.cells #[.string s, .iface 69 (.pointer (some a))] 146)).drew d sl i pr (.iface 95 (.pointer (some ⟨w1.heap.size + 1, 0, none⟩))) ∧
    w.heap.size < w1.heap.size + 1 ∧
    (((w1.setCell ⟨d, 3, none⟩ (.iface 95 (.pointer (some ⟨w1.heap.size + 1, 0, none⟩)))).alloc o1).alloc (.cells #[.string s, .iface 69 (.pointer (some a))] 146)).drew.cell? ⟨w1.heap.size + 1, 1, none⟩ = some (.iface 69 (.pointer (some a))) ∧
    w1.heap.size + 1 < (((w1.setCell ⟨d, 3, none⟩ (.iface 95 (.pointer (some ⟨w1.heap.size + 1, 0, none⟩)))).alloc o1).alloc (.cells #[.string s, .iface 69 (.pointer (some a))] 146)).drew.heap.size ∧
    (((w1.setCell ⟨d, 3, none⟩ (.iface 95 (.pointer (some ⟨w1.heap.size + 1, 0, none⟩)))).alloc o1).alloc (.cells #[.string s, .iface 69 (.pointer (some a))] 146)).drew.heap[g]? = some X ∧
    Below d w (((w1.setCell ⟨d, 3, none⟩ (.iface 95 (.pointer (some ⟨w1.heap.size + 1, 0, none⟩)))).alloc o1).alloc (.cells #[.string s, .iface 69 (.pointer (some a))] 146)).drew := by
  have D2 := D1.set3 (.iface 95 (.pointer (some ⟨w1.heap.size + 1, 0, none⟩)))
  have hz : (w1.setCell ⟨d, 3, none⟩ (.iface 95 (.pointer (some ⟨w1.heap.size + 1, 0, none⟩)))).heap.size = w1.heap.size := by simp [World.setCell]
  have hb2 : Below d w (w1.setCell ⟨d, 3, none⟩ (.iface 95 (.pointer (some ⟨w1.heap.size + 1, 0, none⟩)))) := hb.setCell (p := ⟨d, 3, none⟩) (Nat.le_refl d) _
  have hg2 : (w1.setCell ⟨d, 3, none⟩ (.iface 95 (.pointer (some ⟨w1.heap.size + 1, 0, none⟩)))).heap[g]? = some X := by
    rw [Below.heap_setCell _ _ _ _ (by simp; omega)]; exact hg
  have hlt := D2.lt
  have hsz := hb.size
  generalize w1.setCell ⟨d, 3, none⟩ (.iface 95 (.pointer (some ⟨w1.heap.size + 1, 0, none⟩))) = W at *
  have hbW : Below W.heap.size W ((W.alloc o1).alloc (.cells #[.string s, .iface 69 (.pointer (some a))] 146)).drew := (((Below.refl _ W).alloc (Nat.le_refl _) _).alloc (by simp) _).drew
  refine ⟨D2.below hbW hlt, by omega, ?_, by simp; omega, (hbW.block g (Array.getElem?_eq_some_iff.1 hg2).1).trans hg2, hb2.trans (hbW.mono (Nat.le_of_lt hlt))⟩
  rw [World.cell?_drew, ← hz, World.cell?_alloc_at (hn := by simp)]; rfl

/-- 'fixed' of a decoder whose payload is read whole: the failure wraps io.ErrUnexpectedEOF. -/
theorem fixed_end (F : Interp) (d g m : Nat) (sl : Option Addr) (cap i : Nat) (pr : Int) (X : Obj) (what : ByteArray) (eof : Value) (a : Addr) (s0 : ByteArray) (w : World) (hF : F.answers w.tape)
    (hD : Dec w d (.slice sl i cap) i pr .nilIface) (hm1 : 0 < m) (hdg : d < g) (hg : w.heap[g]? = some X)
    (he : w.cell? ⟨2, 0, none⟩ = some eof) (hu : w.cell? ⟨0, 0, none⟩ = some (.iface 69 (.pointer (some a)))) (hs : w.cell? a = some (.string s0)) (ha : a.block < d) :
    Calls Ybaf.prog 24 #[.pointer (some ⟨d, 0, none⟩), .slice (some ⟨g, 0, none⟩) m m, .string what] w fun e w' => e = .returned (.tuple #[]) ∧
      ∃ k pr', Dec w' d (.slice sl i cap) i pr' (.iface 95 (.pointer (some ⟨k, 0, none⟩))) ∧ w.heap.size < k ∧ w'.cell? ⟨k, 1, none⟩ = some (.iface 69 (.pointer (some a))) ∧ k < w'.heap.size ∧
        w'.heap[g]? = some X ∧ Below d w w' := by
  have h3 := hD.c3
  go_enter Ybaf.func24, Ybaf.ntmps24
  go_wp2_with fail
  refine (read_end d _ i cap i pr .nilIface _ eof _ hD rfl he).mono ?_
  rintro e w0 ⟨rfl, q, rfl⟩
  have hdz : d < w.heap.size := hD.lt
  have hF1 : F.answers (w.drewN q).tape := hF
  have hm0 : (0 : Int) < m := by omega
  clear h3
  have D1 := hD.drewN q
  have HG : Hid ((w.drewN q).heap[g]? = some X) := by
    exact hg
  have HB : Hid (Below d w (w.drewN q)) := below_drewN (Below.refl _ _) q
  have hu1 : (w.drewN q).cell? ⟨0, 0, none⟩ = some (.iface 69 (.pointer (some a))) := hu
  have hs1 : (w.drewN q).cell? a = some (.string s0) := hs
  have hdz : d < (w.drewN q).heap.size := hD.lt
  clear hD hg hu hs he
  generalize w.drewN q = w1 at *
  go_wp2_with fail
  refine (errorf_ends F (0 : Nat) what a s0 _ _ (by exact hF1) (by rw [World.cell?_alloc_at (hn := by simp)]; rfl) (by rw [World.cell?_alloc_at (hn := by simp)]; rfl) (by rw [World.cell?_alloc_at (hn := by simp)]; rfl) ((World.cell?_alloc_lt (w := w1) (h := Nat.lt_trans ha hdz) ..).trans hs1)).mono ?_
  rintro e w2 ⟨rfl, s, rfl⟩
  have D2 : Dec (((w1.alloc (.cells #[.iface 3 (.int .i64 0), .iface 9 (.string what), .iface 69 (.pointer (some a))] 20)).alloc (.cells #[.string s, .iface 69 (.pointer (some a))] 146)).drew) d (.slice sl i cap) i pr .nilIface :=
    D1.below ((((Below.refl _ w1).alloc (Nat.le_refl _) _).alloc (by simp) _).drew) hdz
  have c3 := D2.c3
  have f3 := D2.fr 3
  go_wp2
  go_end0
  exact ⟨rfl, _, _, short_close s a (.cells #[.iface 3 (.int .i64 0), .iface 9 (.string what), .iface 69 (.pointer (some a))] 20) D1 HB.out HG.out hdg⟩

/-- 'fixed' where too few bytes are there: the failure wraps io.ErrUnexpectedEOF. -/
theorem fixed_part (F : Interp) (d sb so g m n : Nat) (len cap i : Nat) (pr : Int) (zs : List Int) (cur : List Value) (t : TypeId) (what : ByteArray) (a : Addr) (s0 : ByteArray) (w : World) (hF : F.answers w.tape)
    (hD : Dec w d (.slice (some ⟨sb, so, none⟩) len cap) i pr .nilIface) (hi : i < len) (hn : i + n = len) (hnm : n < m) (hm : len ≤ 1024) (hcap : len ≤ cap) (hcm : cap ≤ maxLen)
    (hsrc : ∀ j, j < len → w.cell? ⟨sb, so + j, none⟩ = some (.int .u8 (zs.getD j 0))) (hsd : sb < d) (hdg : d < g)
    (hg : w.heap[g]? = some (.cells cur.toArray t (0, 0))) (hcur : cur.length = m) (hm8 : m ≤ 8)
    (hd2 : 2 < d) (hu : w.cell? ⟨0, 0, none⟩ = some (.iface 69 (.pointer (some a)))) (hs : w.cell? a = some (.string s0)) (ha : a.block < d) :
    Calls Ybaf.prog 24 #[.pointer (some ⟨d, 0, none⟩), .slice (some ⟨g, 0, none⟩) m m, .string what] w fun e w' => e = .returned (.tuple #[]) ∧
      ∃ k pr', Dec w' d (.slice (some ⟨sb, so, none⟩) len cap) len pr' (.iface 95 (.pointer (some ⟨k, 0, none⟩))) ∧ w.heap.size < k ∧ w'.cell? ⟨k, 1, none⟩ = some (.iface 69 (.pointer (some a))) ∧ k < w'.heap.size ∧
        w'.heap[g]? = some (.cells (splice cur 0 (took zs i n)).toArray t (0, 0)) ∧ Below d w w' := by
  have h3 := hD.c3
  go_enter Ybaf.func24, Ybaf.ntmps24
  go_wp2_with fail
  refine (read_some d sb so g m n len cap i pr .nilIface zs cur t _ hD (by omega) hm hcap hcm hsrc hsd hdg hg hcur hm8 ((by omega : n = len - i).trans (Nat.min_eq_left (by omega)).symm)).mono ?_
  rintro e w1 ⟨rfl, D1, hg1, hb1⟩
  have hF1 : F.answers w1.tape := by rw [hb1.tape]; exact hF
  have hu1 : w1.cell? ⟨0, 0, none⟩ = some (.iface 69 (.pointer (some a))) := by rw [hb1.cell (p := ⟨0, 0, none⟩) (by simp; omega)]; exact hu
  have hs1 : w1.cell? a = some (.string s0) := by rw [hb1.cell ha]; exact hs
  have hz1 : w.heap.size ≤ w1.heap.size := hb1.size
  have hdz : d < w1.heap.size := D1.lt
  have HG := hide hg1
  have HB := hide hb1
  clear hg1 hb1 h3 hD hsrc hg hu hs
  go_wp2_with fail
  refine (errorf_ends F n what a s0 _ _ (by exact hF1) (by rw [World.cell?_alloc_at (hn := by simp)]; rfl) (by rw [World.cell?_alloc_at (hn := by simp)]; rfl) (by rw [World.cell?_alloc_at (hn := by simp)]; rfl) ((World.cell?_alloc_lt (w := w1) (h := Nat.lt_trans ha hdz) ..).trans hs1)).mono ?_
  rintro e w2 ⟨rfl, s, rfl⟩
  have D2 : Dec (((w1.alloc (.cells #[.iface 3 (.int .i64 n), .iface 9 (.string what), .iface 69 (.pointer (some a))] 20)).alloc (.cells #[.string s, .iface 69 (.pointer (some a))] 146)).drew) d (.slice (some ⟨sb, so, none⟩) len cap) (i + n : Nat) (-1) .nilIface :=
    D1.below ((((Below.refl _ w1).alloc (Nat.le_refl _) _).alloc (by simp) _).drew) hdz
  have c3 := D2.c3
  have f3 := D2.fr 3
  go_wp2
  go_end0
  have hc := short_close s a (.cells #[.iface 3 (.int .i64 n), .iface 9 (.string what), .iface 69 (.pointer (some a))] 20) D1 HB.out HG.out hdg
  rw [hn] at hc
  exact ⟨rfl, _, _, hc⟩

end Go.Proofs.YbulklyFmt
