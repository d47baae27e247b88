import Derived.Test.YbulkquW3
namespace Go.Proofs.Ybulkqu
set_option linter.unusedVariables false
open Go.RowKit

theorem Yba.info22 : (Yba.prog.info? 22).map (fun i => (i.zero, i.size, i.bytes)) = some (some (.int .u64 0), 1, 8) := by kernel_rfl

/-- A strictly increasing list of uint64s, none above c. -/
def Inc (Q : List Int) : Prop := Q.Pairwise (· < ·) ∧ ∀ q ∈ Q, 0 ≤ q ∧ q ≤ 18446744073709551615
def Up (Q : List Int) (c : Int) : Prop := ∀ q ∈ Q, q ≤ c

theorem Inc.snoc {Q : List Int} {c : Int} (h : Inc Q) (h0 : 0 ≤ c) (h1 : c ≤ 18446744073709551615) (hlt : ∀ q ∈ Q, q < c) : Inc (Q ++ [c]) := by
  refine ⟨List.pairwise_append.2 ⟨h.1, List.pairwise_singleton _ _, fun a ha b hb => ?_⟩, fun q hq => ?_⟩
  · rw [List.mem_singleton.1 hb]; exact hlt a ha
  · rcases List.mem_append.1 hq with hq | hq
    · exact h.2 q hq
    · rw [List.mem_singleton.1 hq]; exact ⟨h0, h1⟩

theorem step_up (c g : Int) (h0 : 0 ≤ c) (h1 : c ≤ 18446744073709551615) (g0 : 0 ≤ g) (g1 : g < 256) (h : ¬ IntKind.u64.wrap (IntKind.u64.wrap (c + g) + 1) < c) :
    IntKind.u64.wrap (IntKind.u64.wrap (c + g) + 1) = c + g + 1 ∧ c + g + 1 ≤ 18446744073709551615 := by
  have e : ∀ x : Int, IntKind.u64.wrap x = x % 18446744073709551616 := fun x => by simp [IntKind.wrap, IntKind.bits, IntKind.signed]
  rw [e, e] at h ⊢
  omega
theorem one_cell (w : World) (v : Value) (t : TypeId) : ∀ j u, [v][j]? = some u → (w.alloc (.cells #[v] t)).cell? ((⟨w.heap.size, 0, none⟩ : Addr).add j) = some u := by
  intro j u hj
  match j, hj with
  | 0, hj => simp at hj; subst hj; simp [Addr.add]
theorem one_one {k : IntKind} (x : Int) : ∀ u ∈ [Value.int k x], u.oneCell' = true := by
  intro u hu
  rw [List.mem_singleton.1 hu]; rfl

set_option maxHeartbeats 1000000 in
theorem build_any (base : Int) (gs : List Int) (ga : Option Addr) (n gcap : Nat) (w : World) (hb0 : 0 ≤ base) (hb1 : base ≤ 18446744073709551615) (hn : n ≤ 1024) (hg : 0 < n → ∃ gb go, ga = some ⟨gb, go, none⟩ ∧ gb < w.heap.size ∧ ∀ j, j < n → w.cell? ⟨gb, go + j, none⟩ = some (.int .u8 (gs.getD j 0)))
    (hgs : ∀ j, 0 ≤ gs.getD j 0 ∧ gs.getD j 0 < 256) :
    Calls Yba.prog 4 #[.int .u64 base, .slice ga n gcap] w fun e w' => ∃ Q : List Int, Q.length ≤ n ∧ Inc Q ∧ e = .returned (.slice (some ⟨w.heap.size, 0, none⟩) Q.length n) ∧
      w'.ownsRow w.heap.size 22 1 (.slice (some ⟨w.heap.size, 0, none⟩) Q.length n) Q.length (Q.map (Value.int .u64)) ∧ Below w.heap.size w w' := by
  obtain ⟨i0, hi0, hz0, hz1, hz2⟩ := info_parts Yba.info22
  have hby : i0.bytes * n ≤ 281474976710656 := by rw [hz2]; omega
  have hml : n ≤ maxLen := by unfold maxLen; omega
  have HG := hide hg
  have HGS := hide hgs
  clear hg hgs
  go_enter Yba.func4, Yba.ntmps4
  go_wp2_with (at_make; refine wpList_make_own w rfl (.const (.int .i64 0)) (.tmp 11) 24 rfl w.heap.size 22 i0 (.int .u64 0) 1 Yba.underlying24 hi0 hz0 hz1 .i64 .i64 n n rfl rfl rfl hby hml (Nat.le_refl _) ?_; intro w1 hown1 hgrow1)
  have hb1' : Below w.heap.size w w1 := (Below.refl _ w).grown hgrow1 (Nat.le_refl _) (fun k hk => by cases hk)
  have HO1 := hide hown1
  have HB1 := hide hb1'
  clear hown1 hgrow1 hb1'
  go_loopw [5, 6, 16] (fun sv cv iv wr => ∃ (k : Nat) (c : Int) (Q : List Int), sv = .slice (some ⟨w.heap.size, 0, none⟩) k n ∧ cv = .int .u64 c ∧ iv = .int .i64 k ∧ k ≤ n ∧ Q.length = k ∧ Inc Q ∧ 0 ≤ c ∧ c ≤ 18446744073709551615 ∧ Up Q c ∧
      wr.ownsRow w.heap.size 22 1 (.slice (some ⟨w.heap.size, 0, none⟩) k n) k (Q.map (Value.int .u64)) ∧ Below w.heap.size w wr) (fun _ _ iv _ => n - (intOf iv).toNat)
  case atStart => exact ⟨0, base, [], rfl, rfl, rfl, Nat.zero_le _, rfl, ⟨List.Pairwise.nil, fun q hq => by cases hq⟩, hb0, hb1, (show Up [] base from fun q hq => by cases hq), HO1.out, HB1.out⟩
  case round =>
    obtain ⟨k, c, Q, rfl, rfl, rfl, hk, hQ, hinc, hc0, hc1, hup, hown, hb⟩ := hrel
    have HQ := hide hQ
    have HI := hide hinc
    have HU := hide hup
    have HO := hide hown
    have HB := hide hb
    clear hQ hinc hup hown hb
    by_cases hlt : k < n
    · obtain ⟨gb, go, rfl, hgb, hgc⟩ := HG.out (by omega)
      have hcell : wr.cell? ⟨gb, go + k, none⟩ = some (.int .u8 (gs.getD k 0)) := (HB.out.cell (p := ⟨gb, go + k, none⟩) hgb).trans (hgc k hlt)
      obtain ⟨gv, hgv⟩ : ∃ gv, gv = gs.getD k 0 := ⟨_, rfl⟩
      have hg0 := (HGS.out k).1
      have hg1 := (HGS.out k).2
      rw [← hgv] at hcell hg0 hg1
      clear hgc hgv
      by_cases hk0 : 0 < k
      · have hd : decide ((0 : Int) < (k : Int)) = true := by simp; omega
        by_cases hov : IntKind.u64.wrap (IntKind.u64.wrap (c + gv) + 1) < c
        · go_wp2
          go_ret
          exact ⟨Q, by rw [HQ.out]; exact hk, HI.out, by rw [HQ.out]; rfl, by rw [HQ.out]; exact HO.out, HB.out⟩
        · obtain ⟨hst, hle⟩ := step_up c gv hc0 hc1 hg0 hg1 hov
          clear hst hov
          go_wp2_with (at_builtin; refine wpList_append_fits _ rfl (.tmp 32) (.tmp 34) 24 rfl w.heap.size 22 i0 1 Yba.underlying24 hi0 hz1 w.heap.size k n (Q.map (Value.int .u64)) rfl (HO.out.alloc _) ⟨wr.heap.size, 0, none⟩ 1 1 [.int .u64 (c + gv + 1)] rfl rfl (one_cell _ _ _) (one_one _) (by omega) ?_; intro w2 hown2 hgrow2)
          have HO2 := hide hown2
          have HB2 : Hid (Below w.heap.size w w2) := (HB.out.alloc HB.out.size _).grown hgrow2 (by have := HB.out.size; simp; omega) (fun x hx => by cases hx; exact Nat.le_refl _)
          clear hown2 hgrow2
          go_wp2
          go_roundw
          case rel =>
            refine ⟨k + 1, _, Q ++ [c + gv + 1], rfl, rfl, by go_num, by omega, by simp [HQ.out], HI.out.snoc (by omega) hle (fun q hq => by have := HU.out q hq; omega), by omega, hle, fun q hq => ?_, by simpa using HO2.out, HB2.out⟩
            rcases List.mem_append.1 hq with hq | hq
            · have := HU.out q hq; omega
            · rw [List.mem_singleton.1 hq]; exact Int.le_refl _
          case measure => simp [intOf]; omega
      · obtain rfl : k = 0 := by omega
        have hQ0 : Q = [] := List.eq_nil_of_length_eq_zero HQ.out
        subst hQ0
        rw [Nat.add_zero] at hcell
        go_wp2_with (at_builtin; refine wpList_append_fits _ rfl (.tmp 32) (.tmp 34) 24 rfl w.heap.size 22 i0 1 Yba.underlying24 hi0 hz1 w.heap.size 0 n (List.map (Value.int .u64) []) rfl (HO.out.alloc _) ⟨wr.heap.size, 0, none⟩ 1 1 [.int .u64 c] rfl rfl (one_cell _ _ _) (one_one _) (by omega) ?_; intro w2 hown2 hgrow2)
        have HO2 := hide hown2
        have HB2 : Hid (Below w.heap.size w w2) := (HB.out.alloc HB.out.size _).grown hgrow2 (by have := HB.out.size; simp; omega) (fun x hx => by cases hx; exact Nat.le_refl _)
        clear hown2 hgrow2
        go_wp2
        go_roundw
        case rel =>
          refine ⟨1, c, [c], rfl, rfl, by go_num, by omega, rfl, ⟨List.pairwise_singleton _ _, fun q hq => by rw [List.mem_singleton.1 hq]; exact ⟨hc0, hc1⟩⟩, hc0, hc1, (show Up [c] c from fun q hq => by rw [List.mem_singleton.1 hq]; exact Int.le_refl _), by simpa using HO2.out, HB2.out⟩
        case measure => simp [intOf]; omega
    · obtain rfl : k = n := by omega
      go_wp2
      go_ret
      exact ⟨Q, by rw [HQ.out]; exact hk, HI.out, by rw [HQ.out]; rfl, by rw [HQ.out]; exact HO.out, HB.out⟩
end Go.Proofs.Ybulkqu
