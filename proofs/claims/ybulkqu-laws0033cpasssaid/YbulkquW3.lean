import Derived.Test.YbulkquW2
import Derived.Laws.IdiomCopy
namespace Go.Proofs.Ybulkqu
set_option linter.unusedVariables false
open Go.RowKit

/-- Only block h has turned. -/
structure Only (h : Nat) (w w' : World) : Prop where
  os : w'.os = w.os
  tape : w'.tape = w.tape
  output : w'.output = w.output
  size : w'.heap.size = w.heap.size
  block : ∀ k, k ≠ h → w'.heap[k]? = w.heap[k]?
  frozen : ∀ a, w'.frozen? a = w.frozen? a

theorem Only.refl (h : Nat) (w : World) : Only h w w := ⟨rfl, rfl, rfl, rfl, fun _ _ => rfl, fun _ => rfl⟩
theorem Only.trans {h : Nat} {a b c : World} (x : Only h a b) (y : Only h b c) : Only h a c :=
  ⟨y.os.trans x.os, y.tape.trans x.tape, y.output.trans x.output, y.size.trans x.size, fun k hk => (y.block k hk).trans (x.block k hk), fun p => (y.frozen p).trans (x.frozen p)⟩
theorem Only.drew (h : Nat) (w : World) : Only h w w.drew := ⟨rfl, rfl, rfl, rfl, fun _ _ => rfl, fun _ => rfl⟩
theorem Only.setCell (h o : Nat) (v : Value) (w : World) : Only h w (w.setCell ⟨h, o, none⟩ v) :=
  ⟨rfl, rfl, rfl, by simp [World.setCell], fun k hk => Below.heap_setCell _ _ _ _ hk, fun a => by simp⟩
theorem Only.setCells (h : Nat) : ∀ (vs : List Value) (o : Nat) (w : World), Only h w (w.setCells h o vs)
  | [], _, w => Only.refl h w
  | v :: r, o, w => (Only.setCell h o v w).trans (Only.setCells h r (o + 1) _)
theorem Only.below {h B : Nat} {w w' : World} (x : Only h w w') (hB : B ≤ h) : Below B w w' := ⟨x.os, x.tape, x.output, Nat.le_of_eq x.size.symm, fun k hk => x.block k (by omega)⟩
theorem Only.cell {h : Nat} {w w' : World} (x : Only h w w') {a : Addr} (ha : a.block ≠ h) : w'.cell? a = w.cell? a := World.cell?_of_block (w := w) (x.block a.block ha)

/-- The cell r of an arrival. -/
def arrCell (a : Arr) : Nat → Value
  | 0 => .int .i64 a.1
  | 1 => .int .u64 a.2.1
  | 2 => .slice none 0 0
  | _ => .int .u64 a.2.2

theorem Holds.at {w : World} {h n : Nat} {A : Nat → Arr} (hH : Holds w h n A) (o : Nat) (ho : o < n * 4) : w.cell? ⟨h, o, none⟩ = some (arrCell (A (o / 4)) (o % 4)) := by
  obtain ⟨h0, h1, h2, h3⟩ := hH (o / 4) (by omega)
  have hr : o % 4 = 0 ∨ o % 4 = 1 ∨ o % 4 = 2 ∨ o % 4 = 3 := by omega
  rcases hr with hr | hr | hr | hr
  · rw [show o / 4 * 4 = o by omega] at h0; rw [hr]; exact h0
  · rw [show o / 4 * 4 + 1 = o by omega] at h1; rw [hr]; exact h1
  · rw [show o / 4 * 4 + 2 = o by omega] at h2; rw [hr]; exact h2
  · rw [show o / 4 * 4 + 3 = o by omega] at h3; rw [hr]; exact h3

theorem Holds.mk {w : World} {h n : Nat} {A : Nat → Arr} (hc : ∀ o, o < n * 4 → w.cell? ⟨h, o, none⟩ = some (arrCell (A (o / 4)) (o % 4))) : Holds w h n A := fun t ht => by
  have h0 := hc (t * 4) (by omega)
  have h1 := hc (t * 4 + 1) (by omega)
  have h2 := hc (t * 4 + 2) (by omega)
  have h3 := hc (t * 4 + 3) (by omega)
  rw [show t * 4 / 4 = t by omega, show t * 4 % 4 = 0 by omega] at h0
  rw [show (t * 4 + 1) / 4 = t by omega, show (t * 4 + 1) % 4 = 1 by omega] at h1
  rw [show (t * 4 + 2) / 4 = t by omega, show (t * 4 + 2) % 4 = 2 by omega] at h2
  rw [show (t * 4 + 3) / 4 = t by omega, show (t * 4 + 3) % 4 = 3 by omega] at h3
  exact ⟨h0, h1, h2, h3⟩

/-- The cells of n arrivals from the j-th on. -/
def rows (A : Nat → Arr) (j n : Nat) : List Value := (List.range (n * 4)).map fun o => arrCell (A (j + o / 4)) (o % 4)
theorem rows_length (A : Nat → Arr) (j n : Nat) : (rows A j n).length = n * 4 := by simp [rows]
theorem arrCell_one (a : Arr) (r : Nat) : (arrCell a r).oneCell' = true := by unfold arrCell; split <;> rfl
theorem rows_one (A : Nat → Arr) (j n : Nat) : ∀ v ∈ rows A j n, v.oneCell' = true := by
  intro v hv
  obtain ⟨o, _, rfl⟩ := List.mem_map.1 hv
  exact arrCell_one _ _
theorem rows_at (A : Nat → Arr) (j n o : Nat) (v : Value) (h : (rows A j n)[o]? = some v) : o < n * 4 ∧ v = arrCell (A (j + o / 4)) (o % 4) := by
  have ho : o < n * 4 := by
    have := (List.getElem?_eq_some_iff.1 h).1
    simpa [rows_length] using this
  refine ⟨ho, ?_⟩
  simp [rows, ho] at h
  exact h.symm
theorem rows_get (A : Nat → Arr) (j n o : Nat) (ho : o < (rows A j n).length) : (rows A j n)[o] = arrCell (A (j + o / 4)) (o % 4) := by simp [rows]

theorem run_clear_cells {P : Program} (w : World) (t e ty : TypeId) (z : Value) (ht : P.underlying t = some (.slice e)) (hv : ∀ w, (zeroValue e).run P w = .ok z w) (Z : List Value) (b o n c : Nat) (hn : 0 < n)
    (hzc : (Builtin.zeroCells z.cells n).toList = Z) (h1 : ∀ v ∈ Z, v.oneCell' = true)
    (hc : ∀ j, j < Z.length → (w.cell? ⟨b, o + j, none⟩).isSome = true) (hf : ∀ j, j < Z.length → w.frozen? ⟨b, o + j, none⟩ = false) :
    (Builtin.clear_ #[t] ty #[.slice (some ⟨b, o, none⟩) n c]).run P w = .ok (.tuple #[]) (w.setCells b o Z) := by
  have hst := run_storeCells_cells (P := P) b o Z 0 w (by simpa using hc) (by simpa using hf) h1
  simp only [Nat.add_zero] at hst
  obtain ⟨m, rfl⟩ : ∃ m, n = m + 1 := ⟨n - 1, by omega⟩
  simp [Builtin.clear_, run_underlying ht, hv, hzc, hst]

theorem Yba.zero30 (w : World) : (zeroValue 30).run Yba.prog w = .ok (.agg #[.int .i64 0, .int .u64 0, .slice none 0 0, .int .u64 0]) w := by kernel_rfl
theorem Yba.info30 : (Yba.prog.info? 30).map (fun i => (i.zero, i.size, i.bytes)) = some (some (.agg #[.int .i64 0, .int .u64 0, .slice none 0 0, .int .u64 0]), 4, 48) := by kernel_rfl

theorem zero_rows (n : Nat) : (Builtin.zeroCells (Value.agg #[.int .i64 0, .int .u64 0, .slice none 0 0, .int .u64 0]).cells n).toList = rows (fun _ => (0, 0, 0)) 0 n := by
  have hc : (Value.agg #[.int .i64 0, .int .u64 0, .slice none 0 0, .int .u64 0]).cells = #[.int .i64 0, .int .u64 0, .slice none 0 0, .int .u64 0] := by rfl
  rw [hc]
  apply List.ext_getElem?
  intro o
  simp only [Builtin.zeroCells, rows]
  by_cases ho : o < n * 4
  · simp [ho]
    have hr : o % 4 = 0 ∨ o % 4 = 1 ∨ o % 4 = 2 ∨ o % 4 = 3 := by omega
    rcases hr with hr | hr | hr | hr <;> rw [hr] <;> rfl
  · simp [ho]

set_option maxHeartbeats 1000000 in
/-- slices.Delete(s, 0, j). -/
theorem delete_some (h n cap j : Nat) (A : Nat → Arr) (w : World) (hn : n ≤ 1024) (hcap : n ≤ cap) (hmax : cap ≤ 1024) (hj : j ≤ n) (hj0 : 0 < j) (hH : Holds w h n A) (hfz : ∀ o, w.frozen? ⟨h, o, none⟩ = false) :
    Calls Yba.prog 7 #[.slice (some ⟨h, 0, none⟩) n cap, .int .i64 0, .int .i64 j] w fun e w' => e = .returned (.slice (some ⟨h, 0, none⟩) (n - j) cap) ∧ Holds w' h (n - j) (fun t => A (j + t)) ∧ Only h w w' := by
  obtain ⟨i0, hi0, hz0, hz1, hz2⟩ := info_parts Yba.info30
  have hcells : ∀ o, o < n * 4 → w.cell? ⟨h, o, none⟩ = some (arrCell (A (o / 4)) (o % 4)) := fun o ho => hH.at o ho
  obtain ⟨AD, hAD, hsrc⟩ : ∃ AD : Addr, (if cap = j then some (⟨h, 0, none⟩ : Addr) else some ⟨h, j * 4, none⟩) = some AD ∧ Hid (∀ t u, (rows A j (n - j))[t]? = some u → w.drew.cell? (AD.add t) = some u) := by
    by_cases hc : cap = j
    · refine ⟨⟨h, 0, none⟩, by simp [hc], fun t u hu => ?_⟩
      have := (rows_at _ _ _ _ _ hu).1
      omega
    · refine ⟨⟨h, j * 4, none⟩, by simp [hc], fun t u hu => ?_⟩
      obtain ⟨ht, rfl⟩ := rows_at _ _ _ _ _ hu
      rw [Addr.add_lit, World.cell?_drew, hcells (j * 4 + t) (by omega), show (j * 4 + t) / 4 = j + t / 4 by omega, show (j * 4 + t) % 4 = t % 4 by omega]
  have s1 : Hid ((rows A j (n - j)).length = (n - j) * 4) := rows_length _ _ _
  have s2 : Hid (∀ u ∈ rows A j (n - j), u.oneCell' = true) := rows_one _ _ _
  have s3 : Hid (∀ t, t < (rows A j (n - j)).length → (w.drew.cell? ⟨h, 0 + 0 * 4 + t, none⟩).isSome = true ∧ w.drew.frozen? ⟨h, 0 + 0 * 4 + t, none⟩ = false) := by
    intro t ht
    rw [rows_length] at ht
    refine ⟨?_, hfz _⟩
    show (w.cell? _).isSome = true
    rw [show 0 + 0 * 4 + t = t by omega, hcells t (by omega)]; rfl
  obtain ⟨W1, hW1⟩ : ∃ W1, W1 = w.drew.setCells h (0 + 0 * 4) (rows A j (n - j)) := ⟨_, rfl⟩
  have hO1 : Only h w W1 := by rw [hW1]; exact (Only.drew h w).trans (Only.setCells h _ _ _)
  have hc1 : ∀ o, o < n * 4 → (W1.cell? ⟨h, o, none⟩).isSome = true := by
    intro o ho
    rw [hW1]
    by_cases h2 : o < (n - j) * 4
    · have := World.cell?_setCells_in h (rows A j (n - j)) (0 + 0 * 4) w.drew (fun t ht => (s3.out t ht).1) o (by rw [rows_length]; exact h2)
      rw [show 0 + 0 * 4 + o = o by omega] at this
      rw [this]; rfl
    · rw [World.cell?_setCells_out h _ _ _ _ (fun _ _ => Or.inr (by rw [rows_length]; simp; omega)), World.cell?_drew, hcells o ho]; rfl
  have hcl : ∀ ty, (Builtin.clear_ #[26] ty #[.slice (some ⟨h, (n - j) * 4, none⟩) (n - (n - j)) (cap - (n - j))]).run Yba.prog W1 = .ok (.tuple #[]) (W1.setCells h ((n - j) * 4) (rows (fun _ => (0, 0, 0)) 0 (n - (n - j)))) :=
    fun ty => run_clear_cells W1 26 30 ty _ Yba.underlying26 Yba.zero30 _ h ((n - j) * 4) _ _ (by omega) (zero_rows _) (rows_one _ _ _) (fun t ht => by rw [rows_length] at ht; exact hc1 _ (by omega)) (fun t ht => by rw [hO1.frozen]; exact hfz _)
  have hH2 : Hid (Holds (W1.setCells h ((n - j) * 4) (rows (fun _ => (0, 0, 0)) 0 (n - (n - j)))) h (n - j) (fun t => A (j + t)) ∧ Only h w (W1.setCells h ((n - j) * 4) (rows (fun _ => (0, 0, 0)) 0 (n - (n - j))))) := by
    refine ⟨Holds.mk fun o ho => ?_, hO1.trans (Only.setCells h _ _ _)⟩
    rw [World.cell?_setCells_out h _ _ _ _ (fun _ _ => Or.inl (by simpa using ho)), hW1]
    have := World.cell?_setCells_in h (rows A j (n - j)) (0 + 0 * 4) w.drew (fun t ht => (s3.out t ht).1) o (by rw [rows_length]; exact ho)
    rw [show 0 + 0 * 4 + o = o by omega] at this
    rw [this, rows_get]
  have hW : Hid (W1 = w.drew.setCells h (0 + 0 * 4) (rows A j (n - j))) := hW1
  have hjc : j ≤ cap := by omega
  have hj' : ((0 : Int) == (j : Int)) = false := by simp; omega
  have hjn : n - j ≤ n := by omega
  have hjm : n - j ≤ cap := by omega
  have hje : ¬ cap = n - j := by omega
  clear hW1 hO1 hc1 hcells hH
  go_enter Yba.func7, Yba.ntmps7
  go_wp2_with fail
  go_region_law (refine step_append_room rfl (.tmp 22) (.tmp 25) 26 rfl 30 i0 4 Yba.underlying26 hi0 hz1 h 0 0 cap (by simp [Act.eval, Act.put]) AD (n - j) (cap - j) (rows A j (n - j)) (by simp [Act.eval, Act.put]) s1.out hsrc.out s2.out (by omega) s3.out ?_; rw [← hW.out])
  go_wp2
  go_ret
  exact ⟨rfl, hH2.out⟩

theorem delete_none (h n cap : Nat) (w : World) (hn : n ≤ 1024) (hcap : n ≤ cap) (hmax : cap ≤ 1024) :
    Calls Yba.prog 7 #[.slice (some ⟨h, 0, none⟩) n cap, .int .i64 0, .int .i64 0] w fun e w' => e = .returned (.slice (some ⟨h, 0, none⟩) n cap) ∧ w' = w := by
  go_enter Yba.func7, Yba.ntmps7
  go_wp2
  all_goals (go_ret; exact ⟨rfl, rfl⟩)

theorem delete_any (h n cap j : Nat) (A : Nat → Arr) (w : World) (hn : n ≤ 1024) (hcap : n ≤ cap) (hmax : cap ≤ 1024) (hj : j ≤ n) (hH : Holds w h n A) (hfz : ∀ o, w.frozen? ⟨h, o, none⟩ = false) :
    Calls Yba.prog 7 #[.slice (some ⟨h, 0, none⟩) n cap, .int .i64 0, .int .i64 j] w fun e w' => e = .returned (.slice (some ⟨h, 0, none⟩) (n - j) cap) ∧ Holds w' h (n - j) (fun t => A (j + t)) ∧ Only h w w' := by
  by_cases hj0 : j = 0
  · subst hj0
    refine (delete_none h n cap w hn hcap hmax).mono ?_
    rintro e w' ⟨rfl, rfl⟩
    refine ⟨rfl, ?_, Only.refl _ _⟩
    simpa using hH
  · exact delete_some h n cap j A w hn hcap hmax hj (by omega) hH hfz

/-- Of what was there only blocks h and d have turned. -/
structure Two (h d : Nat) (w w' : World) : Prop where
  os : w'.os = w.os
  tape : w'.tape = w.tape
  output : w'.output = w.output
  size : w.heap.size ≤ w'.heap.size
  block : ∀ k, k < w.heap.size → k ≠ h → k ≠ d → w'.heap[k]? = w.heap[k]?
theorem Two.trans {h d : Nat} {a b c : World} (x : Two h d a b) (y : Two h d b c) : Two h d a c :=
  ⟨y.os.trans x.os, y.tape.trans x.tape, y.output.trans x.output, Nat.le_trans x.size y.size, fun k hk h1 h2 => (y.block k (Nat.lt_of_lt_of_le hk x.size) h1 h2).trans (x.block k hk h1 h2)⟩
theorem Two.ofBelow {h d : Nat} {w w' : World} (b : Below w.heap.size w w') : Two h d w w' := ⟨b.os, b.tape, b.output, b.size, fun k hk _ _ => b.block k hk⟩
theorem Two.ofOnly {h d : Nat} {w w' : World} (b : Only h w w') : Two h d w w' := ⟨b.os, b.tape, b.output, Nat.le_of_eq b.size.symm, fun k _ h1 _ => b.block k h1⟩
theorem Two.setCell (h d o : Nat) (v : Value) (w : World) : Two h d w (w.setCell ⟨d, o, none⟩ v) := ⟨rfl, rfl, rfl, by simp [World.setCell], fun k _ _ h2 => Below.heap_setCell _ _ _ _ h2⟩
theorem Two.below {h d B : Nat} {w w' : World} (x : Two h d w w') (h1 : B ≤ h) (h2 : B ≤ d) (h3 : B ≤ w.heap.size) : Below B w w' := ⟨x.os, x.tape, x.output, x.size, fun k hk => x.block k (by omega) (by omega) (by omega)⟩

set_option maxHeartbeats 1000000 in
theorem pass_any (d h n cap : Nat) (A : Nat → Arr) (nx y : Int) (w : World) (hn : n ≤ 1024) (hcap : n ≤ cap) (hmax : cap ≤ 1024) (hdh : h < d) (hD : Row w d 33 [.int .u64 nx, .slice (some ⟨h, 0, none⟩) n cap])
    (hH : Holds w h n A) (hfz : ∀ o, w.frozen? ⟨h, o, none⟩ = false) (hsort : ∀ t u, t < u → u < n → (A t).2.1 < (A u).2.1) (hh : h < w.heap.size) :
    Calls Yba.prog 5 #[.pointer (some ⟨d, 0, none⟩), .agg #[.int .i64 0, .int .u64 y, .slice none 0 0]] w fun e w' =>
      ∃ j : Nat, j ≤ n ∧ (∀ t, t < j → (A t).2.1 ≤ y) ∧ (∀ t, j ≤ t → t < n → y < (A t).2.1) ∧ e = .returned (.int .i64 j) ∧
        Row w' d 33 [.int .u64 (IntKind.u64.wrap (y + 1)), .slice (some ⟨h, 0, none⟩) (n - j) cap] ∧ Holds w' h (n - j) (fun t => A (j + t)) ∧ (∀ o, w'.frozen? ⟨h, o, none⟩ = false) ∧ Two h d w w' := by
  have hdz := hD.lt
  have hb1 := (Below.refl _ w).alloc (Nat.le_refl _) (.cells #[.int .i64 0, .int .u64 y, .slice none 0 0] 28)
  have hD1 := hD.below hb1 hdz
  have hH1 := hH.below hb1 hh
  have hz1 : (w.alloc (.cells #[.int .i64 0, .int .u64 y, .slice none 0 0] 28)).heap.size = w.heap.size + 1 := by simp
  have hf1 : ∀ o, (w.alloc (.cells #[.int .i64 0, .int .u64 y, .slice none 0 0] 28)).frozen? ⟨h, o, none⟩ = false := fun o => (hb1.frozen (p := ⟨h, o, none⟩) hh).trans (hfz o)
  have HC := hide (through_any d h n cap A y _ hn hcap (by rw [hz1]; omega) hH1 hsort (hD1.cell rfl))
  have e1 : Row (w.alloc (.cells #[.int .i64 0, .int .u64 y, .slice none 0 0] 28)) w.heap.size 28 [.int .i64 0, .int .u64 y, .slice none 0 0] := Row.new w 28 _
  have HE := hide e1
  have HD := hide hD1
  have HH := hide hH1
  have HF := hide hf1
  have HB := hide hb1
  have HZ := hide hz1
  clear hD1 hH1 hf1 hb1 e1 hD hH hfz hsort hz1
  go_enter Yba.func5, Yba.ntmps5
  go_wp2_with fail
  refine HC.out.mono ?_
  rintro e w1 ⟨j, hj, hlo, hhi, rfl, hb⟩
  have hD1 := HD.out.below hb (by rw [HZ.out]; omega)
  have hE1 := HE.out.below hb (by rw [HZ.out]; omega)
  have hH1 := HH.out.below hb (by rw [HZ.out]; omega)
  have hf1 : ∀ o, w1.frozen? ⟨h, o, none⟩ = false := fun o => (hb.frozen (p := ⟨h, o, none⟩) (by rw [HZ.out]; exact Nat.lt_succ_of_lt hh)).trans (HF.out o)
  have HT1 : Hid (Two h d w w1) := (Two.ofBelow HB.out).trans (Two.ofBelow hb)
  have HC2 := hide (delete_any h n cap j A w1 hn hcap hmax hj hH1 hf1)
  have HLO := hide hlo
  have HHI := hide hhi
  have HF1 := hide hf1
  have c1 := hD1.cell (o := 1) rfl
  have HD1 := hide hD1
  have HE1 := hide hE1
  clear HC HD HE HH HF HB hb hlo hhi hf1 hD1 hE1 hH1 HZ
  go_wp2_with fail
  refine HC2.out.mono ?_
  rintro e w2 ⟨rfl, hH2, hO⟩
  have hD2 : Row w2 d 33 [.int .u64 nx, .slice (some ⟨h, 0, none⟩) n cap] := (hO.block d (by omega)).trans HD1.out
  have hE2 : Row w2 w.heap.size 28 [.int .i64 0, .int .u64 y, .slice none 0 0] := (hO.block w.heap.size (by omega)).trans HE1.out
  have hf2 : ∀ o, w2.frozen? ⟨h, o, none⟩ = false := fun o => (hO.frozen _).trans (HF1.out o)
  have HT2 : Hid (Two h d w w2) := HT1.out.trans (Two.ofOnly hO)
  have c0 := hD2.cell (o := 0) rfl
  have c1 := hD2.cell (o := 1) rfl
  have f0 := hD2.frozen 0
  have f1 := hD2.frozen 1
  have e1 := hE2.cell (o := 1) rfl
  have HD2 := hide hD2
  have HH2 := hide hH2
  have HF2 := hide hf2
  have hne : ¬ d = w.heap.size := by omega
  clear hD2 hE2 hH2 hf2 hO HC2 HD1 HE1 HT1 HF1
  go_wp2
  go_ret
  refine ⟨j, hj, HLO.out, HHI.out, rfl, ?_, ?_, fun o => by simp; exact HF2.out o, HT2.out.trans ((Two.setCell h d 1 _ _).trans (Two.setCell h d 0 _ _))⟩
  · exact (HD2.out.set 1 _).set 0 _
  · refine Holds.mk fun o ho => ?_
    rw [Go.World.cell?_of_block (w := w2) (by rw [Below.heap_setCell _ _ _ _ (by simp; omega), Below.heap_setCell _ _ _ _ (by simp; omega)])]
    exact HH2.out.at o ho
end Go.Proofs.Ybulkqu
