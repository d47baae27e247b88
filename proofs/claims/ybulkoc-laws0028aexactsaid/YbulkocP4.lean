import Derived.Test.YbulkocP2
namespace Go.Proofs.Ybulkoc
set_option linter.unusedVariables false
set_option linter.unusedSimpArgs false
open Go.RowKit

/-- A process: from, to, proposal. -/
abbrev Pr := Int × Int × ByteArray
def prCells (L : List Pr) : List Value := L.flatMap fun p => [.int .i64 p.1, .int .i64 p.2.1, .string p.2.2]
theorem prCells_snoc (L : List Pr) (p : Pr) : prCells (L ++ [p]) = prCells L ++ [.int .i64 p.1, .int .i64 p.2.1, .string p.2.2] := by simp [prCells]
theorem prCells_len (L : List Pr) : (prCells L).length = L.length * 3 := flat_len _ 3 (fun _ => rfl) L

/-- 'cmp.Or' on two strings. -/
def orS (x y : ByteArray) : ByteArray := if x.toList.isEmpty then y else x

/-- The last instant. -/
def longest1 : Int := 4611686018427387904
/-- What the loop over the sorted stops appends: (from, proposal, starts) is its state; 'fr', 'vl' read a restart's For and Value. -/
def run (fr : Addr → Int) (vl : Addr → ByteArray) (pv : ByteArray) : List E → Int → ByteArray → Bool → List Pr
  | [], f, p, s => if s then [(f, longest1, p)] else []
  | e :: L, f, p, s => (if s && decide (f < e.1) then [(f, e.1, p)] else []) ++ match e.2.1 with
    | none => run fr vl pv L f p false
    | some a => run fr vl pv L (e.1 + fr a) (orS (vl a) pv) true

/-- The stops, each with its place as its mark. -/
def mk (L : List (Int × Option Addr)) : Nat → E := fun t => ((L.getD t (0, none)).1, (L.getD t (0, none)).2, t)
theorem mk_rising (L : List (Int × Option Addr)) (n : Nat) : Rising (mk L) 0 n := fun i j _ h _ => h

theorem st_get (L : List (Int × Option Addr)) (i : Nat) (h : i < L.length) : (stCells L)[i * 2]? = some (.int .i64 (mk L i).1) ∧ (stCells L)[i * 2 + 1]? = some (.pointer (mk L i).2.1) := by
  have h0 := flat_get (fun s : Int × Option Addr => [Value.int .i64 s.1, .pointer s.2]) 2 (fun _ => rfl) L i 0 (by omega)
  have h1 := flat_get (fun s : Int × Option Addr => [Value.int .i64 s.1, .pointer s.2]) 2 (fun _ => rfl) L i 1 (by omega)
  rw [List.getElem?_eq_getElem h] at h0 h1
  simp only [Option.bind_some, Nat.add_zero] at h0 h1
  refine ⟨h0.trans ?_, h1.trans ?_⟩ <;> simp [mk, List.getD, List.getElem?_eq_getElem h]

/-- Sorting a row that the call owns. -/
theorem sort_own (w : World) (base : Nat) (a : Option Addr) (cap : Nat) (L : List (Int × Option Addr)) (hown : w.ownsRow base 64 2 (.slice a L.length cap) L.length (stCells L)) (hn : L.length ≤ 4096) :
    Calls Yba.prog 8 #[.slice a L.length cap, .func (.func 9) #[] #[]] w fun e w' => e = .returned (.tuple #[]) ∧
      ∃ L', Shuf 0 L.length (mk L) L' ∧ Sorted L' 0 L.length ∧ (∀ g, a = some ⟨g, 0, none⟩ → ∀ k, k < L.length → w'.cell? ⟨g, k * 2, none⟩ = some (.int .i64 (L' k).1) ∧ w'.cell? ⟨g, k * 2 + 1, none⟩ = some (.pointer (L' k).2.1)) ∧
        w.grownBy w' (Value.slice a L.length cap).ownBlock := by
  rcases hown.2 with ⟨h1, h2⟩ | ⟨g, c, cur, h1, h2, h3, h4, h5, h6, h7⟩
  · simp only [Value.slice.injEq] at h1
    obtain ⟨rfl, h1, rfl⟩ := h1
    rw [h1]
    refine (sort_nil w).mono ?_
    rintro e w' ⟨rfl, rfl⟩
    exact ⟨rfl, mk L, Shuf.refl _ _ _, (fun i j _ _ h => by omega), (fun g h => by cases h), World.grownBy.refl _ _⟩
  · simp only [Value.slice.injEq] at h1
    obtain ⟨rfl, _, rfl⟩ := h1
    have hS : St w g L.length (mk L) := by
      refine ⟨fun i hi => ?_, fun i hi => ?_, fun o => hown.frozenAt o, (hown.lt g rfl).2⟩
      · rw [hown.cellAt (i * 2) (by omega)]; exact (st_get L i hi).1
      · rw [hown.cellAt (i * 2 + 1) (by omega)]; exact (st_get L i hi).2
    refine (sort_any g L.length cap (mk L) w hn h4 hS (mk_rising L _)).mono ?_
    rintro e w' ⟨rfl, L', k1, k2, k3, k4⟩
    refine ⟨rfl, L', k2, k3, fun g' hg' k hk => ?_, ⟨k4.os, k4.tape, k4.output, k4.size, fun k hk hne => k4.block k hk (fun e => hne (by rw [e]; rfl))⟩⟩
    simp only [Option.some.injEq, Addr.mk.injEq] at hg'
    obtain ⟨rfl, _⟩ := hg'
    exact ⟨k1.at0 k hk, k1.at1 k hk⟩

theorem empty_is (y : ByteArray) (h : y.toList.isEmpty = true) : y = { data := #[] } := by
  rw [ByteArray.toList_eq, List.isEmpty_iff] at h
  obtain ⟨d⟩ := y
  simp at h
  rw [h]

/-- 'cmp.Or' of two strings. -/
theorem or_any (x y : ByteArray) (g : Nat) (w : World) (h0 : w.cell? ⟨g, 0, none⟩ = some (.string x)) (h1 : w.cell? ⟨g, 1, none⟩ = some (.string y)) :
    Calls Yba.prog 11 #[.slice (some ⟨g, 0, none⟩) 2 2] w fun e w' => e = .returned (.string (orS x y)) ∧ w' = w := by
  have HE : Hid (y.toList.isEmpty = true → y = { data := #[] }) := empty_is y
  have HO1 : Hid (x.toList.isEmpty = true → orS x y = y) := fun h => by simp [orS, h]
  have HO2 : Hid (x.toList.isEmpty = false → orS x y = x) := fun h => by simp [orS, h]
  generalize orS x y = z at *
  go_enter Yba.func11, Yba.ntmps11
  go_wp2_with fail
  go_loopw [8] (fun kv wr => ∃ k : Nat, kv = .int .i64 k ∧ k ≤ 2 ∧ Hid ((0 < k → x.toList.isEmpty = true) ∧ (1 < k → y.toList.isEmpty = true)) ∧ wr = w) (fun kv _ => 2 - (intOf kv).toNat)
  case atStart => exact ⟨0, by go_num, by omega, ⟨(fun h => by omega), (fun h => by omega)⟩, rfl⟩
  case round =>
    obtain ⟨k, rfl, hk, HX, rfl⟩ := hrel
    rcases (show k = 0 ∨ k = 1 ∨ k = 2 by omega) with rfl | rfl | rfl
    · cases hx : x.toList.isEmpty with
      | true =>
        go_wp2
        go_roundw
        case rel => exact ⟨1, by go_num, by omega, ⟨by simp [hx], fun h => by omega⟩, by simp⟩
        case measure => simp [intOf]
      | false =>
        go_wp2
        go_ret
        rw [HO2.out hx]
        exact ⟨rfl, rfl⟩
    · cases hy : y.toList.isEmpty with
      | true =>
        go_wp2
        go_roundw
        case rel => exact ⟨2, by go_num, by omega, ⟨by have := HX.out.1 (by omega); simp [this], by simp [hy]⟩, by simp⟩
        case measure => simp [intOf]
      | false =>
        go_wp2
        go_ret
        rw [HO1.out (HX.out.1 (by omega))]
        exact ⟨rfl, rfl⟩
    · go_wp2
      go_ret
      rw [HO1.out (HX.out.1 (by omega)), HE.out (HX.out.2 (by omega))]
      exact ⟨rfl, rfl⟩
end Go.Proofs.Ybulkoc
