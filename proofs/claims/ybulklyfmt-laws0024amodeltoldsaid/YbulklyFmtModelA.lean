import Derived.Test.YbulklyFmtRow
import Derived.Test.YbulklyFmtW6
namespace Go.Proofs.YbulklyFmt
set_option linter.unusedVariables false
open Go.ChangeShapes Go.WideShapes Go.ChangeAt Go.RowKit Go.Kit
open Go.Extern.Stop Go.Stop Go.Extern

/-- more than 1,024 bytes: true at once. -/
theorem modelA_big (sl : Option Addr) (len cap : Nat) (n : Int) (w : World) (h : 1024 < len) :
    Calls Ybaf.prog 3 #[.slice sl len cap, .int .u8 n] w fun e w' => e = .returned (.bool true) ∧ w' = w := by
  have h' : (1024 : Int) < len := by omega
  go_enter Ybaf.func3, Ybaf.ntmps3
  go_wp2
  go_ret
  exact ⟨rfl, rfl⟩

set_option maxRecDepth 100000 in
set_option maxHeartbeats 1000000 in
theorem modelA_lifted (os : Os) (started : os.Started) (H : Type) (enc : TypeId × Value → H) :
    ReturnsInTold none {} Ybaf.checked os 3 .any Input.okWide ((OpenSpec.ofChange Rows.lawS0024AModelSpec).preRow enc Ybaf.prog Ybaf.f3 [] false Rows.lawS0024AModelRow.laid) (fun F => ((OpenSpec.ofChange Rows.lawS0024AModelSpec).at F).post enc Ybaf.prog Ybaf.f3 false true false false) (aloneAtReturn Ybaf.prog) nothingAlways := by
  refine returnsInTold_of_row (C := Ybaf.checked) (s := OpenSpec.ofChange Rows.lawS0024AModelSpec) (by kernel_rfl) Ybaf.own started (by kernel_rfl) Ybaf.func3
    (OpenSpec.witness_stopped_at (enc := enc) (C := Ybaf.checked) false { World.holding Ybaf.prog os ⟨#[.cells #[.string ⟨#[69, 79, 70]⟩] 71, .cells #[.string ⟨#[117, 110, 101, 120, 112, 101, 99, 116, 101, 100, 32, 69, 79, 70]⟩] 71], #[], []⟩ with
        heap := ((World.holding Ybaf.prog os ⟨#[.cells #[.string ⟨#[69, 79, 70]⟩] 71, .cells #[.string ⟨#[117, 110, 101, 120, 112, 101, 99, 116, 101, 100, 32, 69, 79, 70]⟩] 71], #[], []⟩).heap.modify 2 fun
          | .cells _ t frozen => .cells #[.iface 69 (.pointer (some ⟨12, 0, none⟩))] t frozen
          | o => o).modify 0 fun
          | .cells _ t frozen => .cells #[.iface 69 (.pointer (some ⟨13, 0, none⟩))] t frozen
          | o => o } #[.slice none 0 0, .int .u8 0] rfl (by kernel_rfl) (by kernel_rfl) (by kernel_rfl)
      (OpenSpec.preRow_of_B rfl 8 (by kernel_rfl) (by kernel_rfl) (laidMet_of_run (l := Rows.lawS0024AModelRow.laid) (ps := [.cell 2 0, .cell 12 0, .cell 0 0, .cell 13 0]) 8 (by kernel_rfl) (by kernel_rfl) (by kernel_rfl)))) ?_
  intro F W base args ds gs before _ hF hval0 hW _ _ _ hL _
  have hval : ∀ (j : Nat) t v, Ybaf.f3.params[j]? = some t → args[j]? = some v → Value.okWide Ybaf.prog W .any base t v := hval0
  have hW' := hW
  obtain ⟨p, q, hA0, hV, rfl, hfz, hnd⟩ := hW
  have hA : DataW.TrodAll enc Ybaf.prog W 0 (fun _ => true) true Ybaf.f3.params.toList args.toList ds p := hA0
  rw [Ybaf.params3] at hA hval
  obtain ⟨v0, v1, d0, d1, p0, p1, rfl, rfl, rfl, h0, h1⟩ := trodAll_two hA
  obtain ⟨rfl, rfl⟩ := trodVars_none hV
  obtain ⟨a0, len, cap, rfl⟩ := okWide_slice Ybaf.underlying22 (hval 0 22 v0 rfl rfl)
  have lt0 : ∀ x ∈ p0, x.block < W.heap.size := by obtain ⟨m, hm⟩ := h0; exact DataW.trod_lt m _ _ _ hm
  obtain ⟨n, rfl, rfl, rfl, wn⟩ := open_int Ybaf.underlying5 (hval 1 5 v1 rfl rfl) h1
  obtain ⟨a, s0, c, t, hG, _⟩ := glob_of_laid hL
  clear hA0 hval0
  have hn : 0 ≤ n ∧ n ≤ 255 := by
    have := wn
    simp [Lit.wf, IntKind.min, IntKind.max, IntKind.signed, IntKind.bits] at this
    omega
  suffices hx : Calls Ybaf.prog 3 #[.slice a0 len cap, .int .u8 n] W fun e W' => e = .returned (.bool true) ∧ Below W.heap.size W W' by
    refine hx.mono fun e W' ⟨he, bel⟩ => ?_
    subst he
    exact ⟨_, rfl, _, _, _, [], _, [], hW', trodAll_mk1 (shut_bool Ybaf.underlying4 _), trodAll_mk2 (Below.trod Ybaf.laidOut (by kernel_rfl) (of_decide_eq_true (by kernel_rfl)) h0 bel lt0) (shut_int Ybaf.underlying5 wn), rfl, bel.frame _, fun h => by cases h⟩
  by_cases hl : len ≤ 1024
  · obtain ⟨zs, hS, hz⟩ := src_of_trod h0 hl
    have hy : Bytes zs := fun j => by
      by_cases hj : j < zs.length
      · have hw := hz zs[j] (List.getElem_mem hj)
        simp [Lit.wf, IntKind.min, IntKind.max, IntKind.signed, IntKind.bits] at hw
        simp [List.getD, List.getElem?_eq_getElem hj]
        omega
      · simp [List.getD, List.getElem?_eq_none (show zs.length ≤ j by omega)]
    exact modelA_any F.told a0 len cap n zs a s0 W hF hn.1 hn.2 hS hG hy
  · exact (modelA_big a0 len cap n W (by omega)).mono fun e W' ⟨he, hw⟩ => ⟨he, by rw [hw]; exact Below.refl _ _⟩

theorem modelAProved : Rows.LawS0024AModelToldSaid :=
  Claim7.holds_of_told_tied_any_at .later 3 Ybaf.f3 "fmt.errorf" [] [] _ _ _ _ _ (by kernel_rfl) rfl rfl rfl Ybaf.laidOut (by kernel_rfl) rfl ⟨rfl, rfl, rfl, rfl, rfl, rfl, rfl⟩ rfl rfl (by kernel_rfl) (by kernel_rfl) Ybaf.func3 (by kernel_rfl)
    (of_decide_eq_true (by kernel_rfl)) (of_decide_eq_true (by kernel_rfl)) Ybaf.stops.symm rfl Ybaf.stopKnobs.symm (by kernel_rfl)
    (by kernel_rfl) (by kernel_rfl) (by kernel_rfl) (by kernel_rfl) (by kernel_rfl) (by kernel_rfl) (by kernel_rfl) (by kernel_rfl) (by kernel_rfl) rfl (by kernel_rfl) rfl rfl
    rfl rfl
    rfl (by kernel_rfl) (by kernel_rfl) (by kernel_rfl) (by decide) (by kernel_rfl) lawS0024AModel_row_tie
    (OpenClaim.moreEntering_of (by kernel_rfl) (by kernel_rfl) (by kernel_rfl) (by kernel_rfl) (by kernel_rfl) (by kernel_rfl) (by kernel_rfl) (by kernel_rfl) (by kernel_rfl) (by kernel_rfl))
    ⟨_, WideRow.started_initial, Ybaf.quiet _⟩
    (fun os started _ H enc _ => modelA_lifted os started H enc)
end Go.Proofs.YbulklyFmt
