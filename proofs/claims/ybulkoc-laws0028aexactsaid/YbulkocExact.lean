import Derived.Test.YbulkocRows
import Derived.Test.YbulkocX1
import Derived.Test.YbulkocQ1
import Derived.WalkKit
import Derived.ProofKit
import Derived.OpenShut
import Derived.ChangeOld
import Derived.Below
namespace Go.Proofs.Ybulkoc
open Go.ChangeShapes Go.WideShapes Go.ChangeAt Go.RowKit
set_option linter.unusedVariables false

theorem own3 : ownKnob Yba.prog.godebug = none := by kernel_rfl
theorem laidOut3 : laidOutB Yba.prog = true := by kernel_rfl

set_option maxRecDepth 100000 in
theorem exact_walk (a0 : Int) (a1 a2 : Option Addr) (len1 cap1 len2 cap2 : Nat) (C : List (Int × Int)) (R : List (Int × Int × Int × ByteArray)) (mv : Value) (PV : Nat → ByteArray) (w : World) (w0 : (Lit.int .u8 a0).wf = true)
    (h1 : InC w a1 len1 C) (k1 : len1 ≤ cap1) (h2 : InR w a2 len2 R) (k2 : len2 ≤ cap2) (hmap : ∀ wx, Below w.heap.size w wx → ∀ k : Nat, 1 ≤ k → k ≤ 8 → (Instr.lookup 24 mv (.int .i64 (k : Int)) false).run Yba.prog wx = .ok (.string (PV k)) wx) :
    Calls Yba.prog 3 #[.int .u8 a0, .slice a1 len1 cap1, .slice a2 len2 cap2, mv] w fun e w' => e = .returned (.bool true) ∧ Below w.heap.size w w' := by
  have b0 := rng_u8 w0
  by_cases hl1 : len1 ≤ 1024
  · by_cases hl2 : len2 ≤ 1024
    · exact exact_any a0 (a0 % 8 + 1).toNat a1 a2 len1 cap1 len2 cap2 C R mv PV w b0.1 b0.2 (by omega) h1 h2 hl1 k1 hl2 k2 hmap
    · have t1 : decide ((1024 : Int) < (len1 : Int)) = false := by simp; omega
      have t2 : decide ((1024 : Int) < (len2 : Int)) = true := by simp; omega
      clear h1 h2 hmap
      go_enter Yba.func3, Yba.ntmps3
      go_wp2
      go_ret
      exact ⟨rfl, Below.refl _ _⟩
  · have t1 : decide ((1024 : Int) < (len1 : Int)) = true := by simp; omega
    clear h1 h2 hmap
    go_enter Yba.func3, Yba.ntmps3
    go_wp2
    go_ret
    exact ⟨rfl, Below.refl _ _⟩

set_option maxRecDepth 100000 in
theorem exact_lifted (os : Os) (started : os.Started) (H : Type) (enc : TypeId × Value → H) :
    ReturnsInHanded {} Yba.checked os 3 .any (Rows.lawS0028AExactSpec.pre6 enc Yba.prog Yba.f3 Rows.lawS0028AExactRow.domain false) (Rows.lawS0028AExactSpec.post enc Yba.prog Yba.f3 false true false false) := by
  refine returnsInHanded_of_change (C := Yba.checked) own3 started (by kernel_rfl) Yba.func3
    (ChangeSpec.witness6 (enc := enc) (C := Yba.checked) false ⟨#[], #[.int .u8 0, .slice none 0 0, .slice none 0 0, .map none], []⟩ 8 (by kernel_rfl) (by kernel_rfl) (by kernel_rfl) (by kernel_rfl)) ?_
  intro W base args ds gs before hval0 hW hcnd _
  have hval : ∀ (j : Nat) t v, Yba.f3.params[j]? = some t → args[j]? = some v → Value.okWide Yba.prog W .any base t v := hval0
  have hW' := hW
  obtain ⟨p, q, hA0, hV, rfl, hfz, hnd⟩ := hW
  have hA : DataW.TrodAll enc Yba.prog W 0 (fun _ => true) true Yba.f3.params.toList args.toList ds p := hA0
  rw [Yba.params3] at hA hval
  obtain ⟨v0, vs0, d0, ds0, p0, q0, hargs, rfl, rfl, h0, r0⟩ := trodAll_cons hA
  obtain ⟨v1, vs1, d1, ds1, p1, q1, rfl, rfl, rfl, h1, r1⟩ := trodAll_cons r0
  obtain ⟨v2, vs2, d2, ds2, p2, q2, rfl, rfl, rfl, h2, r2⟩ := trodAll_cons r1
  obtain ⟨v3, vs3, d3, ds3, p3, q3, rfl, rfl, rfl, h3, r3⟩ := trodAll_cons r2
  obtain ⟨rfl, rfl, rfl⟩ := trodAll_nil r3
  obtain rfl : args = #[v0, v1, v2, v3] := by cases args; simp_all
  obtain ⟨rfl, rfl⟩ := trodVars_none hV
  obtain ⟨a0, rfl, rfl, rfl, w0⟩ := open_int Yba.underlying5 (hval 0 5 v0 rfl rfl) h0
  obtain ⟨a1, len1, cap1, rfl⟩ := okWide_slice Yba.underlying22 (hval 1 22 v1 rfl rfl)
  obtain ⟨a2, len2, cap2, rfl⟩ := okWide_slice Yba.underlying23 (hval 2 23 v2 rfl rfl)
  obtain ⟨a3, rfl⟩ := okWide_map Yba.underlying24 (hval 3 24 v3 rfl rfl)
  have k1 := h1
  have k2 := h2
  have k3 := h3
  have lt1 : ∀ x ∈ p1, x.block < W.heap.size := by obtain ⟨m, hm⟩ := k1; exact DataW.trod_lt m _ _ _ hm
  have lt2 : ∀ x ∈ p2, x.block < W.heap.size := by obtain ⟨m, hm⟩ := k2; exact DataW.trod_lt m _ _ _ hm
  have lt3 : ∀ x ∈ p3, x.block < W.heap.size := by obtain ⟨m, hm⟩ := k3; exact DataW.trod_lt m _ _ _ hm
  obtain ⟨c1, C, hC⟩ : len1 ≤ cap1 ∧ ∃ C, InC W a1 len1 C := by obtain ⟨fuel, hf⟩ := h1; exact read_C hf
  obtain ⟨c2, R, hR⟩ : len2 ≤ cap2 ∧ ∃ R, InR W a2 len2 R := by obtain ⟨fuel, hf⟩ := h2; exact read_R hf
  obtain ⟨PV, hPV⟩ : ∃ PV : Nat → ByteArray, ∀ wx, Below W.heap.size W wx → ∀ k : Nat, 1 ≤ k → k ≤ 8 → (Instr.lookup 24 (.map a3) (.int .i64 (k : Int)) false).run Yba.prog wx = .ok (.string (PV k)) wx := by obtain ⟨fuel, hf⟩ := h3; exact read_M hf
  clear hA0 hval0
  refine (exact_walk a0 a1 a2 len1 cap1 len2 cap2 C R (.map a3) PV W w0 hC c1 hR c2 hPV).mono fun e W' ⟨he, bel⟩ => ?_
  subst he
  exact ⟨_, rfl, _, _, _, [], _, [], hW', trodAll_mk1 (shut_bool Yba.underlying4 _), (trodAll_cons_mk (shut_int Yba.underlying5 w0) (trodAll_cons_mk (Below.trod laidOut3 (by kernel_rfl) (of_decide_eq_true (by kernel_rfl)) k1 bel lt1) (trodAll_cons_mk (Below.trod laidOut3 (by kernel_rfl) (of_decide_eq_true (by kernel_rfl)) k2 bel lt2) (trodAll_cons_mk (Below.trod laidOut3 (by kernel_rfl) (of_decide_eq_true (by kernel_rfl)) k3 bel lt3) trodAll_mk0)))), rfl, bel.frame _, fun h => by cases h⟩

theorem exact_over : Rows.lawS0028AExactRow.holds Yba.pinned (OpenSpec.ofChange Rows.lawS0028AExactSpec) :=
  OpenClaim.holds_of_wide 3 Yba.f3 rfl rfl rfl rfl rfl rfl rfl ⟨rfl, rfl, rfl, rfl, rfl⟩ rfl rfl rfl rfl rfl (by kernel_rfl) Yba.func3 (by kernel_rfl)
    (of_decide_eq_true (by kernel_rfl)) (by unfold Func.isWrapper; first | (rw [if_pos (by decide +kernel)]; kernel_rfl) | (rw [if_neg (by decide +kernel)]; exact ⟨rfl, rfl⟩))
    (fun os started H enc _ => exact_lifted os started H enc)

/-- ████ THE STATEMENT ████ -/
theorem exactProved : Rows.LawS0028AExactSaid := exact_over
end Go.Proofs.Ybulkoc
