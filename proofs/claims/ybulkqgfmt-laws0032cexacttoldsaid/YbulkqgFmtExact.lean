import Derived.Test.YbulkqgFmtWalks1
import Derived.Test.YbulkqgFmtCards
import Derived.ProofKit
import Derived.OpenShut
import Derived.Stop.JoinedTold
import Derived.Stop.JoinedAt
import Derived.SevenToldRow
namespace Go.Proofs.YbulkqgFmt
set_option linter.unusedVariables false
open Go.ChangeShapes Go.WideShapes Go.ChangeAt Go.RowKit Go.Kit
open Go.Extern.Stop Go.Stop Go.Extern

theorem valid_any (n a l : Int) (w : World) : Calls Ybaf.prog 12 #[.int .i64 n, .int .i64 a, .int .i64 l] w fun e w' => e = .returned (.bool (valid n a l)) ∧ w' = w := by
  by_cases h1 : n < 1
  · rw [show valid n a l = false by simp [valid]; omega]
    have d1 : decide (n < 1) = true := by simp; omega
    go_enter Ybaf.func12, Ybaf.ntmps12
    go_wp2
    go_ret
    exact ⟨rfl, rfl⟩
  have d1 : decide (n < 1) = false := by simp; omega
  by_cases h2 : 100000 < n
  · rw [show valid n a l = false by simp [valid]; omega]
    have d2 : decide (100000 < n) = true := by simp; omega
    go_enter Ybaf.func12, Ybaf.ntmps12
    go_wp2
    go_ret
    exact ⟨rfl, rfl⟩
  have d2 : decide (100000 < n) = false := by simp; omega
  by_cases h3 : a < 1
  · rw [show valid n a l = false by simp [valid]; omega]
    have d3 : decide (a < 1) = true := by simp; omega
    go_enter Ybaf.func12, Ybaf.ntmps12
    go_wp2
    go_ret
    exact ⟨rfl, rfl⟩
  have d3 : decide (a < 1) = false := by simp; omega
  by_cases h4 : n < a
  · rw [show valid n a l = false by simp [valid]; omega]
    have d4 : decide (n < a) = true := by simp; omega
    go_enter Ybaf.func12, Ybaf.ntmps12
    go_wp2
    go_ret
    exact ⟨rfl, rfl⟩
  have d4 : decide (n < a) = false := by simp; omega
  by_cases h5 : l < 1
  · rw [show valid n a l = false by simp [valid]; omega]
    have d5 : decide (l < 1) = true := by simp; omega
    go_enter Ybaf.func12, Ybaf.ntmps12
    go_wp2
    go_ret
    exact ⟨rfl, rfl⟩
  have d5 : decide (l < 1) = false := by simp; omega
  by_cases h6 : n < l
  · rw [show valid n a l = false by simp [valid]; omega]
    have d6 : decide (n < l) = true := by simp; omega
    go_enter Ybaf.func12, Ybaf.ntmps12
    go_wp2
    go_ret
    exact ⟨rfl, rfl⟩
  · rw [show valid n a l = true by simp [valid]; omega]
    have d6 : decide (n < l) = false := by simp; omega
    go_enter Ybaf.func12, Ybaf.ntmps12
    go_wp2
    go_ret
    exact ⟨rfl, rfl⟩

theorem exact_any (F : Interp) (n a l : Int) (w : World) (hF : F.answers w.tape) : Calls Ybaf.prog 5 #[.int .i64 n, .int .i64 a, .int .i64 l] w fun e w' => e = .returned (.bool true) ∧ Below w.heap.size w w' := by
  cases hv : valid n a l with
  | true =>
    have HC : Hid (∀ w, Calls Ybaf.prog 12 #[.int .i64 n, .int .i64 a, .int .i64 l] w fun e w' => e = .returned (.bool true) ∧ w' = w) := fun w => by rw [← hv]; exact valid_any n a l w
    have H0 : Hid (Calls Ybaf.prog 11 #[.int .i64 n, .int .i64 a, .int .i64 l] w fun e w' => e = .returned .nilIface ∧ w' = w) := check_ok n a l w hv
    clear hv
    go_enter Ybaf.func5, Ybaf.ntmps5
    go_wp2_with fail
    refine H0.out.mono ?_
    rintro e w' ⟨rfl, rfl⟩
    go_wp2_with fail
    go_quiet ((go_at_call 12; exact Calls.quiet_of_same (HC.out _)))
    go_wp2
    go_ret
    exact ⟨rfl, below_drewN (Below.refl _ _) _⟩
  | false =>
    have HC : Hid (∀ w, Calls Ybaf.prog 12 #[.int .i64 n, .int .i64 a, .int .i64 l] w fun e w' => e = .returned (.bool false) ∧ w' = w) := fun w => by rw [← hv]; exact valid_any n a l w
    have H0 : Hid (Calls Ybaf.prog 11 #[.int .i64 n, .int .i64 a, .int .i64 l] w (Bad w)) := check_bad F n a l w hF hv
    clear hv
    go_enter Ybaf.func5, Ybaf.ntmps5
    go_wp2_with fail
    refine H0.out.mono ?_
    rintro e w' ⟨⟨ad, rfl⟩, hb⟩
    have HB : Hid (Below w.heap.size w w') := hb
    clear hb
    go_wp2_with fail
    go_quiet ((go_at_call 12; exact Calls.quiet_of_same (HC.out _)))
    go_wp2
    go_ret
    exact ⟨rfl, below_drewN HB.out _⟩

theorem Ybaf.own : ownKnob Ybaf.prog.godebug = none := by kernel_rfl
theorem Ybaf.laidOut : laidOutB Ybaf.pinned.checked.prog = true := by kernel_rfl
theorem Ybaf.stops : Ybaf.pinned.checked.prog.stops = ["fmt.errorf"] := by kernel_rfl
theorem Ybaf.stopKnobs : Ybaf.pinned.checked.prog.stopKnobs = [] := by kernel_rfl
theorem Ybaf.quiet (os : Os) : Stop.quiet Ybaf.pinned.checked.prog os := by
  intro k hk
  rw [Ybaf.stopKnobs] at hk
  cases hk

set_option maxRecDepth 100000 in
set_option maxHeartbeats 1000000 in
theorem exact_lifted (os : Os) (started : os.Started) (H : Type) (enc : TypeId × Value → H) :
    ReturnsInTold none {} Ybaf.checked os 5 .any Input.okWide ((OpenSpec.ofChange Rows.lawS0032CExactSpec).preRow enc Ybaf.prog Ybaf.f5 [] false []) (fun F => ((OpenSpec.ofChange Rows.lawS0032CExactSpec).at F).post enc Ybaf.prog Ybaf.f5 false true false false) (aloneAtReturn Ybaf.prog) nothingAlways := by
  refine returnsInTold_of_row (C := Ybaf.checked) (s := OpenSpec.ofChange Rows.lawS0032CExactSpec) (by kernel_rfl) Ybaf.own started (by kernel_rfl) Ybaf.func5
    (OpenSpec.witness_stopped_at (enc := enc) (C := Ybaf.checked) false (World.holding Ybaf.prog os ⟨#[], #[], []⟩) #[.int .i64 0, .int .i64 0, .int .i64 0] rfl (by kernel_rfl) (by kernel_rfl) (by kernel_rfl)
      (OpenSpec.preRow_of_B rfl 8 (by kernel_rfl) (by kernel_rfl) (laidMet_nil _ _))) ?_
  intro F W base args ds gs before _ hF hval0 hW _ _ _ _ _
  have hval : ∀ (j : Nat) t v, Ybaf.f5.params[j]? = some t → args[j]? = some v → Value.okWide Ybaf.prog W .any base t v := hval0
  have hW' := hW
  obtain ⟨p, q, hA0, hV, rfl, hfz, hnd⟩ := hW
  have hA : DataW.TrodAll enc Ybaf.prog W 0 (fun _ => true) true Ybaf.f5.params.toList args.toList ds p := hA0
  rw [Ybaf.params5] at hA hval
  obtain ⟨v0, v1, v2, d0, d1, d2, p0, p1, p2, rfl, rfl, rfl, h0, h1, h2⟩ := trodAll_three hA
  obtain ⟨rfl, rfl⟩ := trodVars_none hV
  obtain ⟨n, rfl, rfl, rfl, wn⟩ := open_int Ybaf.underlying3 (hval 0 3 v0 rfl rfl) h0
  obtain ⟨a, rfl, rfl, rfl, wa⟩ := open_int Ybaf.underlying3 (hval 1 3 v1 rfl rfl) h1
  obtain ⟨l, rfl, rfl, rfl, wl⟩ := open_int Ybaf.underlying3 (hval 2 3 v2 rfl rfl) h2
  clear hA0 hval0
  refine (exact_any F.told n a l W hF).mono fun e W' ⟨he, bel⟩ => ?_
  subst he
  exact ⟨_, rfl, _, _, _, [], _, [], hW', trodAll_mk1 (shut_bool Ybaf.underlying4 _), trodAll_mk3 (shut_int Ybaf.underlying3 wn) (shut_int Ybaf.underlying3 wa) (shut_int Ybaf.underlying3 wl), rfl, bel.frame _, fun h => by cases h⟩

theorem exactProved : Rows.LawS0032CExactToldSaid :=
  Claim7.holds_of_told_any 5 Ybaf.f5 "fmt.errorf" [] [] _ _ _ (by kernel_rfl) rfl rfl rfl Ybaf.laidOut (by kernel_rfl) rfl ⟨rfl, rfl, rfl, rfl, rfl, rfl, rfl⟩ rfl rfl (by kernel_rfl) (by kernel_rfl) Ybaf.func5 (by kernel_rfl)
    (of_decide_eq_true (by kernel_rfl)) (of_decide_eq_true (by kernel_rfl)) Ybaf.stops.symm rfl Ybaf.stopKnobs.symm (by kernel_rfl)
    (by kernel_rfl) (by kernel_rfl) (by kernel_rfl) (by kernel_rfl) (by kernel_rfl) (by kernel_rfl) (by kernel_rfl) (by kernel_rfl) (by kernel_rfl) rfl (by kernel_rfl) rfl rfl
    rfl rfl
    rfl (by kernel_rfl) (by kernel_rfl) (by kernel_rfl) (by decide) (by kernel_rfl)
    (OpenClaim.moreEntering_of (by kernel_rfl) (by kernel_rfl) (by kernel_rfl) (by kernel_rfl) (by kernel_rfl) (by kernel_rfl) (by kernel_rfl) (by kernel_rfl) (by kernel_rfl) (by kernel_rfl))
    ⟨_, WideRow.started_initial, Ybaf.quiet _⟩
    (fun os started _ H enc _ => exact_lifted os started H enc)
end Go.Proofs.YbulkqgFmt
