import Derived.Test.YbulkocP5
import Derived.Test.YbulkocB2t
namespace Go.Proofs.Ybulkoc
set_option linter.unusedVariables false
open Go.RowKit

theorem CfgIn.grow {w w' : World} {aC aR : Option Addr} {nc nr cC cR m : Nat} {CL : List (Int × Int)} {RL : List (Int × Int × Int × ByteArray)} (h : CfgIn w aC aR nc nr cC cR m CL RL) (hb : Below w.heap.size w w') : CfgIn w' aC aR nc nr cC cR m CL RL := by
  refine { h with crash := fun hp => ?_, rest := fun hp => ?_ }
  · obtain ⟨g, h1, h2, h3⟩ := h.crash hp
    exact ⟨g, h1, Nat.lt_of_lt_of_le h2 hb.size, fun i hi => ⟨(hb.cell (p := ⟨g, i * 2, none⟩) h2).trans (h3 i hi).1, (hb.cell (p := ⟨g, i * 2 + 1, none⟩) h2).trans (h3 i hi).2⟩⟩
  · obtain ⟨g, h1, h2, h3⟩ := h.rest hp
    exact ⟨g, h1, Nat.lt_of_lt_of_le h2 hb.size, fun i hi => ⟨(hb.cell (p := ⟨g, i * 4, none⟩) h2).trans (h3 i hi).1, (hb.cell (p := ⟨g, i * 4 + 1, none⟩) h2).trans (h3 i hi).2.1, (hb.cell (p := ⟨g, i * 4 + 2, none⟩) h2).trans (h3 i hi).2.2.1, (hb.cell (p := ⟨g, i * 4 + 3, none⟩) h2).trans (h3 i hi).2.2.2⟩⟩

theorem cr_get (C : List (Int × Int)) (i : Nat) (h : i < C.length) : (crCells C)[i * 2]? = some (.int .i64 (C.getD i (0, 0)).1) ∧ (crCells C)[i * 2 + 1]? = some (.int .i64 (C.getD i (0, 0)).2) := by
  have h0 := flat_get (fun c : Int × Int => [Value.int .i64 c.1, .int .i64 c.2]) 2 (fun _ => rfl) C i 0 (by omega)
  have h1 := flat_get (fun c : Int × Int => [Value.int .i64 c.1, .int .i64 c.2]) 2 (fun _ => rfl) C i 1 (by omega)
  rw [List.getElem?_eq_getElem h] at h0 h1
  simp only [Option.bind_some, Nat.add_zero] at h0 h1
  refine ⟨h0.trans ?_, h1.trans ?_⟩ <;> simp [List.getD, List.getElem?_eq_getElem h]
theorem rs_get (R : List (Int × Int × Int × ByteArray)) (i : Nat) (h : i < R.length) : (rsCells R)[i * 4]? = some (.int .i64 (R.getD i (0, 0, 0, .empty)).1) ∧ (rsCells R)[i * 4 + 1]? = some (.int .i64 (R.getD i (0, 0, 0, .empty)).2.1) ∧ (rsCells R)[i * 4 + 2]? = some (.int .i64 (R.getD i (0, 0, 0, .empty)).2.2.1) ∧ (rsCells R)[i * 4 + 3]? = some (.string (R.getD i (0, 0, 0, .empty)).2.2.2) := by
  have hh := fun j hj => flat_get (fun r : Int × Int × Int × ByteArray => [Value.int .i64 r.1, .int .i64 r.2.1, .int .i64 r.2.2.1, .string r.2.2.2]) 4 (fun _ => rfl) R i j hj
  have h0 := hh 0 (by omega)
  have h1 := hh 1 (by omega)
  have h2 := hh 2 (by omega)
  have h3 := hh 3 (by omega)
  rw [List.getElem?_eq_getElem h] at h0 h1 h2 h3
  simp only [Option.bind_some, Nat.add_zero] at h0 h1 h2 h3
  refine ⟨h0.trans ?_, h1.trans ?_, h2.trans ?_, h3.trans ?_⟩ <;> simp [List.getD, List.getElem?_eq_getElem h]

theorem map_getD {α β : Type} (f : α → β) (L : List α) (i : Nat) (d : α) (e : β) : (L.map f).getD i e = if i < L.length then f (L.getD i d) else e := by
  simp only [List.getD, List.getElem?_map]
  by_cases h : i < L.length
  · simp [h]
  · simp [h]

/-- The Config built: what its slices hold. -/
theorem cfg_in {w w' : World} {m nc nr : Nat} {vC vR : Value} {ac ar : Option Addr} {C : List (Int × Int)} {R : List (Int × Int × Int × ByteArray)} {nn : Bool} (hC : InC w ac nc C) (hR : InR w ar nr R) (hnc : nc ≤ 1024) (hnr : nr ≤ 1024) (hm1 : 1 ≤ m) (hm8 : m ≤ 8)
    (oC : w'.ownsRow w.heap.size 56 2 vC nc (crCells (C.map (mkC m)))) (oR : w'.ownsRow w.heap.size 51 4 vR nr (rsCells (R.map (mkR m nn)))) :
    ∃ aC cC aR cR, vC = .slice aC nc cC ∧ vR = .slice aR nr cR ∧ CfgIn w' aC aR nc nr cC cR m (C.map (mkC m)) (R.map (mkR m nn)) := by
  obtain ⟨aC, cC, rfl, kC, fC⟩ := own_form oC
  obtain ⟨aR, cR, rfl, kR, fR⟩ := own_form oR
  have lC : (C.map (mkC m)).length = nc := by rw [List.length_map, hC.size]
  have lR : (R.map (mkR m nn)).length = nr := by rw [List.length_map, hR.size]
  have hmod : ∀ x : Int, 0 ≤ x → ∃ id : Nat, id < m ∧ x % (m : Int) + 1 = (id : Int) + 1 := fun x hx => by
    have h1 := Int.emod_nonneg x (show (m : Int) ≠ 0 by omega)
    have h2 := Int.emod_lt_of_pos x (show (0 : Int) < m by omega)
    exact ⟨(x % (m : Int)).toNat, by omega, by omega⟩
  refine ⟨aC, cC, aR, cR, rfl, rfl, ⟨lC, lR, kC, kR, hnc, hnr, hm1, hm8, fun hp => ?_, fun hp => ?_, fun i hi => ?_, fun j hj => ?_, fun i => ?_, fun j => ?_⟩⟩
  · obtain ⟨g, rfl, _, hg⟩ := fC hp
    refine ⟨g, rfl, hg, fun i hi => ?_⟩
    have := cr_get (C.map (mkC m)) i (by omega)
    exact ⟨by rw [oC.cellAt (i * 2) (by omega)]; exact this.1, by rw [oC.cellAt (i * 2 + 1) (by omega)]; exact this.2⟩
  · obtain ⟨g, rfl, _, hg⟩ := fR hp
    refine ⟨g, rfl, hg, fun i hi => ?_⟩
    have := rs_get (R.map (mkR m nn)) i (by omega)
    exact ⟨by rw [oR.cellAt (i * 4) (by omega)]; exact this.1, by rw [oR.cellAt (i * 4 + 1) (by omega)]; exact this.2.1, by rw [oR.cellAt (i * 4 + 2) (by omega)]; exact this.2.2.1, by rw [oR.cellAt (i * 4 + 3) (by omega)]; exact this.2.2.2⟩
  · rw [map_getD _ _ _ (0, 0), if_pos (by rw [hC.size]; exact hi)]
    exact hmod _ (hC.rng i).1
  · rw [map_getD _ _ _ (0, 0, 0, .empty), if_pos (by rw [hR.size]; exact hj)]
    exact hmod _ (hR.rng j).1
  · rw [map_getD _ _ _ (0, 0)]
    split
    · exact (hC.rng i).2.2
    · simp
  · rw [map_getD _ _ _ (0, 0, 0, .empty)]
    split
    · have h := hR.rng j
      refine ⟨h.2.2.1, h.2.2.2.1, ?_⟩
      cases nn with
      | false => exact ⟨h.2.2.2.2.1, Int.le_trans h.2.2.2.2.2 (by decide)⟩
      | true => simp [mkR]; omega
    · simp

theorem nonneg_in {m : Nat} {R : List (Int × Int × Int × ByteArray)} (j : Nat) : 0 ≤ ((R.map (mkR m true)).getD j (0, 0, 0, .empty)).2.2.1 ∧ ((R.map (mkR m true)).getD j (0, 0, 0, .empty)).2.2.1 ≤ 65535 := by
  rw [map_getD _ _ _ (0, 0, 0, .empty)]
  split
  · simp [mkR]; omega
  · simp
end Go.Proofs.Ybulkoc
