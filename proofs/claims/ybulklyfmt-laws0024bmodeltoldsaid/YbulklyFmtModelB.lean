import Derived.Test.YbulklyFmtRow
import Derived.Test.YbulklyFmtW8
namespace Go.Proofs.YbulklyFmt
set_option linter.unusedVariables false
open Go.ChangeShapes Go.WideShapes Go.ChangeAt Go.RowKit Go.Kit
open Go.Extern.Stop Go.Stop Go.Extern

/-- more than 1,024 bytes or operations: true at once. -/
theorem modelB_big (sl : Option Addr) (len cap : Nat) (ol : Option Addr) (n ocap : Nat) (w : World) (h : 1024 < len ∨ 1024 < n) :
    Calls Ybaf.prog 4 #[.slice sl len cap, .slice ol n ocap] w fun e w' => e = .returned (.bool true) ∧ w' = w := by
  by_cases h1 : 1024 < len
  · have h' : decide ((1024 : Int) < len) = true := by simp; omega
    go_enter Ybaf.func4, Ybaf.ntmps4
    go_wp2
    go_ret
    exact ⟨rfl, rfl⟩
  · have h' : decide ((1024 : Int) < len) = false := by simp; omega
    have h'' : decide ((1024 : Int) < n) = true := by simp; omega
    go_enter Ybaf.func4, Ybaf.ntmps4
    go_wp2
    go_ret
    exact ⟨rfl, rfl⟩

theorem bytes_of {zs : List Int} (hz : ∀ n ∈ zs, (Lit.int .u8 n).wf = true) : Bytes zs := fun j => by
  by_cases hj : j < zs.length
  · have hw := hz zs[j] (List.getElem_mem hj)
    simp [Lit.wf, IntKind.min, IntKind.max, IntKind.signed, IntKind.bits] at hw
    simp [List.getD, List.getElem?_eq_getElem hj]
    omega
  · simp [List.getD, List.getElem?_eq_none (show zs.length ≤ j by omega)]

set_option maxRecDepth 100000 in
set_option maxHeartbeats 1000000 in
theorem modelB_lifted (os : Os) (started : os.Started) (H : Type) (enc : TypeId × Value → H) :
    ReturnsInTold none {} Ybaf.checked os 4 .any Input.okWide ((OpenSpec.ofChange Rows.lawS0024BModelSpec).preRow enc Ybaf.prog Ybaf.f4 [] false Rows.lawS0024BModelRow.laid) (fun F => ((OpenSpec.ofChange Rows.lawS0024BModelSpec).at F).post enc Ybaf.prog Ybaf.f4 false true false false) (aloneAtReturn Ybaf.prog) nothingAlways := by
  refine returnsInTold_of_row (C := Ybaf.checked) (s := OpenSpec.ofChange Rows.lawS0024BModelSpec) (by kernel_rfl) Ybaf.own started (by kernel_rfl) Ybaf.func4
    (OpenSpec.witness_stopped_at (enc := enc) (C := Ybaf.checked) false { World.holding Ybaf.prog os ⟨#[.cells #[.string ⟨#[69, 79, 70]⟩] 71, .cells #[.string ⟨#[117, 110, 101, 120, 112, 101, 99, 116, 101, 100, 32, 69, 79, 70]⟩] 71], #[], []⟩ with
        heap := ((World.holding Ybaf.prog os ⟨#[.cells #[.string ⟨#[69, 79, 70]⟩] 71, .cells #[.string ⟨#[117, 110, 101, 120, 112, 101, 99, 116, 101, 100, 32, 69, 79, 70]⟩] 71], #[], []⟩).heap.modify 2 fun
          | .cells _ t frozen => .cells #[.iface 69 (.pointer (some ⟨12, 0, none⟩))] t frozen
          | o => o).modify 0 fun
          | .cells _ t frozen => .cells #[.iface 69 (.pointer (some ⟨13, 0, none⟩))] t frozen
          | o => o } #[.slice none 0 0, .slice none 0 0] rfl (by kernel_rfl) (by kernel_rfl) (by kernel_rfl)
      (OpenSpec.preRow_of_B rfl 8 (by kernel_rfl) (by kernel_rfl) (laidMet_of_run (l := Rows.lawS0024BModelRow.laid) (ps := [.cell 2 0, .cell 12 0, .cell 0 0, .cell 13 0]) 8 (by kernel_rfl) (by kernel_rfl) (by kernel_rfl)))) ?_
  intro F W base args ds gs before _ hF hval0 hW _ _ _ hL _
  have hval : ∀ (j : Nat) t v, Ybaf.f4.params[j]? = some t → args[j]? = some v → Value.okWide Ybaf.prog W .any base t v := hval0
  have hW' := hW
  obtain ⟨p, q, hA0, hV, rfl, hfz, hnd⟩ := hW
  have hA : DataW.TrodAll enc Ybaf.prog W 0 (fun _ => true) true Ybaf.f4.params.toList args.toList ds p := hA0
  rw [Ybaf.params4] at hA hval
  obtain ⟨v0, v1, d0, d1, p0, p1, rfl, rfl, rfl, h0, h1⟩ := trodAll_two hA
  obtain ⟨rfl, rfl⟩ := trodVars_none hV
  obtain ⟨a0, len, cap, rfl⟩ := okWide_slice Ybaf.underlying22 (hval 0 22 v0 rfl rfl)
  have lt0 : ∀ x ∈ p0, x.block < W.heap.size := by obtain ⟨m, hm⟩ := h0; exact DataW.trod_lt m _ _ _ hm
  obtain ⟨ol, n, ocap, rfl⟩ := okWide_slice Ybaf.underlying22 (hval 1 22 v1 rfl rfl)
  have lt1 : ∀ x ∈ p1, x.block < W.heap.size := by obtain ⟨m, hm⟩ := h1; exact DataW.trod_lt m _ _ _ hm
  obtain ⟨a, s0, c, t, hG, _⟩ := glob_of_laid hL
  clear hA0 hval0
  suffices hx : Calls Ybaf.prog 4 #[.slice a0 len cap, .slice ol n ocap] W fun e W' => e = .returned (.bool true) ∧ Below W.heap.size W W' by
    refine hx.mono fun e W' ⟨he, bel⟩ => ?_
    subst he
    exact ⟨_, rfl, _, _, _, [], _, [], hW', trodAll_mk1 (shut_bool Ybaf.underlying4 _), trodAll_mk2 (Below.trod Ybaf.laidOut (by kernel_rfl) (of_decide_eq_true (by kernel_rfl)) h0 bel lt0) (Below.trod Ybaf.laidOut (by kernel_rfl) (of_decide_eq_true (by kernel_rfl)) h1 bel lt1), rfl, bel.frame _, fun h => by cases h⟩
  by_cases hl : len ≤ 1024 ∧ n ≤ 1024
  · obtain ⟨zs, hS, hz⟩ := src_of_trod h0 hl.1
    obtain ⟨os', hO, hzo⟩ := src_of_trod h1 hl.2
    exact modelB_any F.told a0 len cap ol n ocap zs os' a s0 W hF hS hG (bytes_of hz) hl.2 hO.hcells (bytes_of hzo)
  · exact (modelB_big a0 len cap ol n ocap W (by omega)).mono fun e W' ⟨he, hw⟩ => ⟨he, by rw [hw]; exact Below.refl _ _⟩

theorem modelBProved : Rows.LawS0024BModelToldSaid :=
  Claim7.holds_of_told_tied_any_at .later 4 Ybaf.f4 "fmt.errorf" [] [] _ _ _ _ _ (by kernel_rfl) rfl rfl rfl Ybaf.laidOut (by kernel_rfl) rfl ⟨rfl, rfl, rfl, rfl, rfl, rfl, rfl⟩ rfl rfl (by kernel_rfl) (by kernel_rfl) Ybaf.func4 (by kernel_rfl)
    (of_decide_eq_true (by kernel_rfl)) (of_decide_eq_true (by kernel_rfl)) Ybaf.stops.symm rfl Ybaf.stopKnobs.symm (by kernel_rfl)
    (by kernel_rfl) (by kernel_rfl) (by kernel_rfl) (by kernel_rfl) (by kernel_rfl) (by kernel_rfl) (by kernel_rfl) (by kernel_rfl) (by kernel_rfl) rfl (by kernel_rfl) rfl rfl
    rfl rfl
    rfl (by kernel_rfl) (by kernel_rfl) (by kernel_rfl) (by decide) (by kernel_rfl) lawS0024BModel_row_tie
    (OpenClaim.moreEntering_of (by kernel_rfl) (by kernel_rfl) (by kernel_rfl) (by kernel_rfl) (by kernel_rfl) (by kernel_rfl) (by kernel_rfl) (by kernel_rfl) (by kernel_rfl) (by kernel_rfl))
    ⟨_, WideRow.started_initial, Ybaf.quiet _⟩
    (fun os started _ H enc _ => modelB_lifted os started H enc)
end Go.Proofs.YbulklyFmt
