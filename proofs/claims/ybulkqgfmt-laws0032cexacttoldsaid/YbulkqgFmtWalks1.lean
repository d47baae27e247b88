/-
  THE CLOSED FACTS FOR A WALK OVER fmt's STOPPED FRONT, for this program (after a worked example's text, turned to this dump's numbers).
-/
import Derived.Test.YbulkqgFmtChecked
import Derived.Test.YbulkqgFmtRows
import Derived.Stop.CallBack
import Derived.Stop.IfaceNil
import Derived.Stop.FmtTextLaws
import GoSem.ClaimData
import Derived.KernelRfl
import Derived.WalkKit
import Derived.WalkSpells
import Derived.WalkSmall
import Derived.BigQuiet
import Derived.Deep.QuietTactic
namespace Go.Proofs.YbulkqgFmt
set_option linter.unusedVariables false
open Go.RowKit Go.Extern.Stop Go.Stop Go.Extern

theorem Ybaf.call17 (args : Array Value) (w : World) : (callFunc 17 args).run Ybaf.prog w = ((FmtStop.errorf #[9, 45] #[30] args).run Ybaf.prog w).andThen fun v w' => .ok (.value v) w' :=
  run_callFunc_extern Ybaf.func17 (by kernel_rfl) (by kernel_rfl) (by kernel_rfl) (by kernel_rfl) args w
theorem Ybaf.guard (name : String) (w : World) : (FmtStop.guard name).run Ybaf.prog w = .ok () w := by kernel_rfl
-- operands: 2
theorem Ybaf.fmt0 : FmtStop.printed? ⟨#[114, 101, 112, 108, 105, 99, 97, 32, 99, 111, 117, 110, 116, 32, 37, 100, 32, 111, 117, 116, 32, 111, 102, 32, 114, 97, 110, 103, 101, 32, 49, 46, 46, 37, 100]⟩ 2 = some [(0, 100, false), (1, 100, false)] := by kernel_rfl
theorem Ybaf.fmt0r (w : World) : (FmtDoors.printed ⟨#[114, 101, 112, 108, 105, 99, 97, 32, 99, 111, 117, 110, 116, 32, 37, 100, 32, 111, 117, 116, 32, 111, 102, 32, 114, 97, 110, 103, 101, 32, 49, 46, 46, 37, 100]⟩ 2).run Ybaf.prog w = .ok [(0, 100, false), (1, 100, false)] w := by kernel_rfl
theorem Ybaf.fmt1 : FmtStop.printed? ⟨#[114, 101, 112, 108, 105, 99, 97, 32, 99, 111, 117, 110, 116, 32, 37, 100, 32, 111, 117, 116, 32, 111, 102, 32, 114, 97, 110, 103, 101, 32, 49, 46, 46, 37, 100]⟩ 0 = some [] := by kernel_rfl
theorem Ybaf.fmt1r (w : World) : (FmtDoors.printed ⟨#[114, 101, 112, 108, 105, 99, 97, 32, 99, 111, 117, 110, 116, 32, 37, 100, 32, 111, 117, 116, 32, 111, 102, 32, 114, 97, 110, 103, 101, 32, 49, 46, 46, 37, 100]⟩ 0).run Ybaf.prog w = .ok [] w := by kernel_rfl
-- operands: 2
theorem Ybaf.fmt2 : FmtStop.printed? ⟨#[119, 114, 105, 116, 101, 32, 113, 117, 111, 114, 117, 109, 32, 37, 100, 32, 111, 117, 116, 32, 111, 102, 32, 114, 97, 110, 103, 101, 32, 49, 46, 46, 37, 100]⟩ 2 = some [(0, 100, false), (1, 100, false)] := by kernel_rfl
theorem Ybaf.fmt2r (w : World) : (FmtDoors.printed ⟨#[119, 114, 105, 116, 101, 32, 113, 117, 111, 114, 117, 109, 32, 37, 100, 32, 111, 117, 116, 32, 111, 102, 32, 114, 97, 110, 103, 101, 32, 49, 46, 46, 37, 100]⟩ 2).run Ybaf.prog w = .ok [(0, 100, false), (1, 100, false)] w := by kernel_rfl
theorem Ybaf.fmt3 : FmtStop.printed? ⟨#[119, 114, 105, 116, 101, 32, 113, 117, 111, 114, 117, 109, 32, 37, 100, 32, 111, 117, 116, 32, 111, 102, 32, 114, 97, 110, 103, 101, 32, 49, 46, 46, 37, 100]⟩ 0 = some [] := by kernel_rfl
theorem Ybaf.fmt3r (w : World) : (FmtDoors.printed ⟨#[119, 114, 105, 116, 101, 32, 113, 117, 111, 114, 117, 109, 32, 37, 100, 32, 111, 117, 116, 32, 111, 102, 32, 114, 97, 110, 103, 101, 32, 49, 46, 46, 37, 100]⟩ 0).run Ybaf.prog w = .ok [] w := by kernel_rfl
-- operands: 2
theorem Ybaf.fmt4 : FmtStop.printed? ⟨#[114, 101, 97, 100, 32, 113, 117, 111, 114, 117, 109, 32, 37, 100, 32, 111, 117, 116, 32, 111, 102, 32, 114, 97, 110, 103, 101, 32, 49, 46, 46, 37, 100]⟩ 2 = some [(0, 100, false), (1, 100, false)] := by kernel_rfl
theorem Ybaf.fmt4r (w : World) : (FmtDoors.printed ⟨#[114, 101, 97, 100, 32, 113, 117, 111, 114, 117, 109, 32, 37, 100, 32, 111, 117, 116, 32, 111, 102, 32, 114, 97, 110, 103, 101, 32, 49, 46, 46, 37, 100]⟩ 2).run Ybaf.prog w = .ok [(0, 100, false), (1, 100, false)] w := by kernel_rfl
theorem Ybaf.fmt5 : FmtStop.printed? ⟨#[114, 101, 97, 100, 32, 113, 117, 111, 114, 117, 109, 32, 37, 100, 32, 111, 117, 116, 32, 111, 102, 32, 114, 97, 110, 103, 101, 32, 49, 46, 46, 37, 100]⟩ 0 = some [] := by kernel_rfl
theorem Ybaf.fmt5r (w : World) : (FmtDoors.printed ⟨#[114, 101, 97, 100, 32, 113, 117, 111, 114, 117, 109, 32, 37, 100, 32, 111, 117, 116, 32, 111, 102, 32, 114, 97, 110, 103, 101, 32, 49, 46, 46, 37, 100]⟩ 0).run Ybaf.prog w = .ok [] w := by kernel_rfl
def Ybaf.shape3 : List UInt8 := [5, 3, 0, 0, 0, 0, 0, 0, 0, 105, 110, 116]
theorem Ybaf.op3_100w (name : String) (x : Int) (w : World) : (FmtStop.operand name true 100 false (.iface 3 (.int .i64 x))).run Ybaf.prog w = .ok (Ybaf.shape3, Go.Extern.Stop.digits 8 (x % 2 ^ 64).toNat) w := by kernel_rfl
theorem Ybaf.strict3 (name : String) (x : Int) (w : World) : (FmtStop.strict name (.iface 3 (.int .i64 x))).run Ybaf.prog w = .ok (Ybaf.shape3, Go.Extern.Stop.digits 8 (x % 2 ^ 64).toNat) w := by kernel_rfl
theorem Ybaf.ptr42 (w : World) : (FmtStop.ptrTo "errors.errorString").run Ybaf.prog w = .ok 42 w := by kernel_rfl
theorem Ybaf.elem42 (w : World) : (elemOf 42).run Ybaf.prog w = .ok 44 w := by kernel_rfl
theorem Ybaf.isError42' (w : World) : (FmtDoors.textMethod 42 "Error").run Ybaf.prog w = .ok true w := by kernel_rfl

attribute [local go_sem] Ybaf.call17 Ybaf.guard Ybaf.fmt0 Ybaf.fmt0r Ybaf.fmt1 Ybaf.fmt1r Ybaf.fmt2 Ybaf.fmt2r Ybaf.fmt3 Ybaf.fmt3r Ybaf.fmt4 Ybaf.fmt4r Ybaf.fmt5 Ybaf.fmt5r Ybaf.op3_100w Ybaf.strict3 Ybaf.ptr42 Ybaf.elem42 Ybaf.isError42'


theorem errorf_count (F : Interp) (x y : Int) (g : Nat) (w : World) (hF : F.answers w.tape) (h0 : w.cell? ⟨g, 0, none⟩ = some (.iface 3 (.int .i64 x))) (h1 : w.cell? ⟨g, 1, none⟩ = some (.iface 3 (.int .i64 y))) :
    Calls Ybaf.prog 14 #[.string ⟨#[114, 101, 112, 108, 105, 99, 97, 32, 99, 111, 117, 110, 116, 32, 37, 100, 32, 111, 117, 116, 32, 111, 102, 32, 114, 97, 110, 103, 101, 32, 49, 46, 46, 37, 100]⟩, .slice (some ⟨g, 0, none⟩) 2 2] w fun e w' => e = .returned (.iface 42 (.pointer (some ⟨w.heap.size, 0, none⟩))) ∧ ∃ s, w' = (w.alloc (.cells #[.string s] 44)).drew := by
  have hF' := answers_open hF
  go_enter Ybaf.func14, Ybaf.ntmps14
  go_wp2
  go_ret
  exact ⟨rfl, _, rfl⟩


theorem errorf_write (F : Interp) (x y : Int) (g : Nat) (w : World) (hF : F.answers w.tape) (h0 : w.cell? ⟨g, 0, none⟩ = some (.iface 3 (.int .i64 x))) (h1 : w.cell? ⟨g, 1, none⟩ = some (.iface 3 (.int .i64 y))) :
    Calls Ybaf.prog 14 #[.string ⟨#[119, 114, 105, 116, 101, 32, 113, 117, 111, 114, 117, 109, 32, 37, 100, 32, 111, 117, 116, 32, 111, 102, 32, 114, 97, 110, 103, 101, 32, 49, 46, 46, 37, 100]⟩, .slice (some ⟨g, 0, none⟩) 2 2] w fun e w' => e = .returned (.iface 42 (.pointer (some ⟨w.heap.size, 0, none⟩))) ∧ ∃ s, w' = (w.alloc (.cells #[.string s] 44)).drew := by
  have hF' := answers_open hF
  go_enter Ybaf.func14, Ybaf.ntmps14
  go_wp2
  go_ret
  exact ⟨rfl, _, rfl⟩


theorem errorf_read (F : Interp) (x y : Int) (g : Nat) (w : World) (hF : F.answers w.tape) (h0 : w.cell? ⟨g, 0, none⟩ = some (.iface 3 (.int .i64 x))) (h1 : w.cell? ⟨g, 1, none⟩ = some (.iface 3 (.int .i64 y))) :
    Calls Ybaf.prog 14 #[.string ⟨#[114, 101, 97, 100, 32, 113, 117, 111, 114, 117, 109, 32, 37, 100, 32, 111, 117, 116, 32, 111, 102, 32, 114, 97, 110, 103, 101, 32, 49, 46, 46, 37, 100]⟩, .slice (some ⟨g, 0, none⟩) 2 2] w fun e w' => e = .returned (.iface 42 (.pointer (some ⟨w.heap.size, 0, none⟩))) ∧ ∃ s, w' = (w.alloc (.cells #[.string s] 44)).drew := by
  have hF' := answers_open hF
  go_enter Ybaf.func14, Ybaf.ntmps14
  go_wp2
  go_ret
  exact ⟨rfl, _, rfl⟩


/-- What an error of fmt.Errorf's make leaves: an interface value that is not nil; nothing old has turned. -/
def Bad (w : World) (e : Ending) (w' : World) : Prop := (∃ a, e = .returned (.iface 42 (.pointer (some a)))) ∧ Below w.heap.size w w'

theorem write_bad (F : Interp) (n a : Int) (w : World) (hF : F.answers w.tape) (h : n < 1 ∨ 100000 < n ∨ a < 1 ∨ n < a) : Calls Ybaf.prog 15 #[.int .i64 n, .int .i64 a] w (Bad w) := by
  by_cases h1 : n < 1
  · go_enter Ybaf.func15, Ybaf.ntmps15
    go_wp2_with fail
    refine (errorf_count F n 100000 _ _ (by exact hF) (by rw [World.cell?_alloc_at (hn := by simp)]; rfl) (by rw [World.cell?_alloc_at (hn := by simp)]; rfl)).mono ?_
    rintro e w' ⟨rfl, s, rfl⟩
    go_wp2
    go_ret
    exact ⟨⟨_, rfl⟩, ((((Below.refl _ w).alloc (Nat.le_refl _) _).alloc (by simp) _).drew)⟩
  by_cases h2 : 100000 < n
  · have d1 : decide (n < 1) = false := by simp; omega
    go_enter Ybaf.func15, Ybaf.ntmps15
    go_wp2_with fail
    refine (errorf_count F n 100000 _ _ (by exact hF) (by rw [World.cell?_alloc_at (hn := by simp)]; rfl) (by rw [World.cell?_alloc_at (hn := by simp)]; rfl)).mono ?_
    rintro e w' ⟨rfl, s, rfl⟩
    go_wp2
    go_ret
    exact ⟨⟨_, rfl⟩, ((((Below.refl _ w).alloc (Nat.le_refl _) _).alloc (by simp) _).drew)⟩
  have d1 : decide (n < 1) = false := by simp; omega
  have d2 : decide (100000 < n) = false := by simp; omega
  by_cases h3 : a < 1
  · go_enter Ybaf.func15, Ybaf.ntmps15
    go_wp2_with fail
    refine (errorf_write F a n _ _ (by exact hF) (by rw [World.cell?_alloc_at (hn := by simp)]; rfl) (by rw [World.cell?_alloc_at (hn := by simp)]; rfl)).mono ?_
    rintro e w' ⟨rfl, s, rfl⟩
    go_wp2
    go_ret
    exact ⟨⟨_, rfl⟩, ((((Below.refl _ w).alloc (Nat.le_refl _) _).alloc (by simp) _).drew)⟩
  · have d3 : decide (a < 1) = false := by simp; omega
    have h4 : n < a := by omega
    clear h
    go_enter Ybaf.func15, Ybaf.ntmps15
    go_wp2_with fail
    refine (errorf_write F a n _ _ (by exact hF) (by rw [World.cell?_alloc_at (hn := by simp)]; rfl) (by rw [World.cell?_alloc_at (hn := by simp)]; rfl)).mono ?_
    rintro e w' ⟨rfl, s, rfl⟩
    go_wp2
    go_ret
    exact ⟨⟨_, rfl⟩, ((((Below.refl _ w).alloc (Nat.le_refl _) _).alloc (by simp) _).drew)⟩

theorem write_ok (n a : Int) (w : World) (h1 : 1 ≤ n) (h2 : n ≤ 100000) (h3 : 1 ≤ a) (h4 : a ≤ n) : Calls Ybaf.prog 15 #[.int .i64 n, .int .i64 a] w fun e w' => e = .returned .nilIface ∧ w' = w := by
  have d1 : decide (n < 1) = false := by simp; omega
  have d2 : decide (100000 < n) = false := by simp; omega
  have d3 : decide (a < 1) = false := by simp; omega
  have d4 : decide (n < a) = false := by simp; omega
  go_enter Ybaf.func15, Ybaf.ntmps15
  go_wp2
  go_ret
  exact ⟨rfl, rfl⟩

theorem read_bad (F : Interp) (l n : Int) (w : World) (hF : F.answers w.tape) (h : l < 1 ∨ n < l) : Calls Ybaf.prog 16 #[.int .i64 l, .int .i64 n] w (Bad w) := by
  by_cases h1 : l < 1
  · go_enter Ybaf.func16, Ybaf.ntmps16
    go_wp2_with fail
    refine (errorf_read F l n _ _ (by exact hF) (by rw [World.cell?_alloc_at (hn := by simp)]; rfl) (by rw [World.cell?_alloc_at (hn := by simp)]; rfl)).mono ?_
    rintro e w' ⟨rfl, s, rfl⟩
    go_wp2
    go_ret
    exact ⟨⟨_, rfl⟩, ((((Below.refl _ w).alloc (Nat.le_refl _) _).alloc (by simp) _).drew)⟩
  · have d1 : decide (l < 1) = false := by simp; omega
    have h2 : n < l := by omega
    clear h
    go_enter Ybaf.func16, Ybaf.ntmps16
    go_wp2_with fail
    refine (errorf_read F l n _ _ (by exact hF) (by rw [World.cell?_alloc_at (hn := by simp)]; rfl) (by rw [World.cell?_alloc_at (hn := by simp)]; rfl)).mono ?_
    rintro e w' ⟨rfl, s, rfl⟩
    go_wp2
    go_ret
    exact ⟨⟨_, rfl⟩, ((((Below.refl _ w).alloc (Nat.le_refl _) _).alloc (by simp) _).drew)⟩

theorem read_ok (l n : Int) (w : World) (h1 : 1 ≤ l) (h2 : l ≤ n) : Calls Ybaf.prog 16 #[.int .i64 l, .int .i64 n] w fun e w' => e = .returned .nilIface ∧ w' = w := by
  have d1 : decide (l < 1) = false := by simp; omega
  have d2 : decide (n < l) = false := by simp; omega
  go_enter Ybaf.func16, Ybaf.ntmps16
  go_wp2
  go_ret
  exact ⟨rfl, rfl⟩

/-- The law's own word on three numbers. -/
def valid (n a l : Int) : Bool := decide (1 ≤ n ∧ n ≤ 100000 ∧ 1 ≤ a ∧ a ≤ n ∧ 1 ≤ l ∧ l ≤ n)

theorem check_ok (n a l : Int) (w : World) (h : valid n a l = true) : Calls Ybaf.prog 11 #[.int .i64 n, .int .i64 a, .int .i64 l] w fun e w' => e = .returned .nilIface ∧ w' = w := by
  obtain ⟨h1, h2, h3, h4, h5, h6⟩ : 1 ≤ n ∧ n ≤ 100000 ∧ 1 ≤ a ∧ a ≤ n ∧ 1 ≤ l ∧ l ≤ n := by simpa [valid] using h
  clear h
  go_enter Ybaf.func11, Ybaf.ntmps11
  go_wp2_with fail
  refine (write_ok n a _ h1 h2 h3 h4).mono ?_
  rintro e w' ⟨rfl, rfl⟩
  go_wp2_with fail
  refine (read_ok l n _ h5 h6).mono ?_
  rintro e w' ⟨rfl, rfl⟩
  go_wp2
  go_ret
  exact ⟨rfl, rfl⟩

theorem check_bad (F : Interp) (n a l : Int) (w : World) (hF : F.answers w.tape) (h : valid n a l = false) : Calls Ybaf.prog 11 #[.int .i64 n, .int .i64 a, .int .i64 l] w (Bad w) := by
  have h' : ¬ (1 ≤ n ∧ n ≤ 100000 ∧ 1 ≤ a ∧ a ≤ n ∧ 1 ≤ l ∧ l ≤ n) := by simpa [valid] using h
  clear h
  by_cases hw : n < 1 ∨ 100000 < n ∨ a < 1 ∨ n < a
  · have HC := write_bad F n a w hF hw
    have H : Hid (Calls Ybaf.prog 15 #[.int .i64 n, .int .i64 a] w (Bad w)) := HC
    clear HC hw h'
    go_enter Ybaf.func11, Ybaf.ntmps11
    go_wp2_with fail
    refine H.out.mono ?_
    rintro e w' ⟨⟨ad, rfl⟩, hb⟩
    have HB : Hid (Below w.heap.size w w') := hb
    clear hb
    go_wp2
    go_ret
    exact ⟨⟨_, rfl⟩, HB.out⟩
  · have H : Hid (Calls Ybaf.prog 16 #[.int .i64 l, .int .i64 n] w (Bad w)) := read_bad F l n w hF (by omega)
    have H0 : Hid (Calls Ybaf.prog 15 #[.int .i64 n, .int .i64 a] w fun e w' => e = .returned .nilIface ∧ w' = w) := write_ok n a w (by omega) (by omega) (by omega) (by omega)
    clear hw h'
    go_enter Ybaf.func11, Ybaf.ntmps11
    go_wp2_with fail
    refine H0.out.mono ?_
    rintro e w' ⟨rfl, rfl⟩
    go_wp2_with fail
    refine H.out.mono ?_
    rintro e w' ⟨⟨ad, rfl⟩, hb⟩
    have HB : Hid (Below w'.heap.size w' w') := Below.refl _ _
    have HB2 := hb
    have HB3 : Hid _ := HB2
    clear hb HB2
    go_wp2
    go_ret
    exact ⟨⟨_, rfl⟩, HB3⟩
end Go.Proofs.YbulkqgFmt
