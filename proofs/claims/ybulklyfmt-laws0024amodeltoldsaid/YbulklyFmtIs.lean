import Derived.Test.YbulklyFmtFacts
import Derived.WalkKit
import Derived.LaidEql
import Derived.Stop.Asserts
import Derived.RowKitTokens
namespace Go.Proofs.YbulklyFmt
set_option linter.unusedVariables false
open Go.RowKit Go.Extern.Stop Go.Stop Go.Extern

/-! errors.Is(e, x), e a *fmt.wrapError that wraps the sentinel x itself (after a worked text of the guide's, turned to this dump's numbers). -/
theorem Ybaf.isTypeOf (v : Value) (w : World) : (Extern.ReflectliteType.typeOf #[.iface 69 v]).run Ybaf.prog w = .ok (.iface 85 (.agg #[.pointer (some ⟨7, 69, none⟩)])) w := by kernel_rfl
theorem Ybaf.isComparable (w : World) : (callFunc 69 #[.agg #[.pointer (some ⟨7, 69, none⟩)]]).run Ybaf.prog w = .ok (.value (.bool true)) w := by kernel_rfl
theorem Ybaf.isMethodComparable (v : Value) (w : World) : (Go.method 258 85 v "Comparable").run Ybaf.prog w = .ok (69, v) w := by kernel_rfl
theorem Ybaf.isComp : (Ybaf.prog.info? 69).map (·.comparable) = some true := by kernel_rfl
theorem Ybaf.isSize : (Ybaf.prog.info? 71).map (·.size) = some 1 := by kernel_rfl
theorem Ybaf.noIsW (v : Value) (xT : TypeId) (w : World) : (Instr.typeAssert (.iface 95 v) xT 87 true).run Ybaf.prog w = .ok (.tuple #[.nilIface, .bool false]) w := run_typeAssert_lacksB Ybaf.underlying87 (by kernel_rfl) (by kernel_rfl) v xT w
theorem Ybaf.hasUnwrapW (v : Value) (xT : TypeId) (w : World) : (Instr.typeAssert (.iface 95 v) xT 90 true).run Ybaf.prog w = .ok (.tuple #[.iface 95 v, .bool true]) w := run_typeAssert_hasB Ybaf.underlying90 (by kernel_rfl) v xT w
theorem Ybaf.methodUnwrap (v : Value) (w : World) : (Go.method 258 95 v "Unwrap").run Ybaf.prog w = .ok (79, v) w := by kernel_rfl

theorem is_wrap_same (pb po : Nat) (b : Addr) (w : World) (h1 : w.cell? ⟨pb, po + 1, none⟩ = some (.iface 69 (.pointer (some b)))) :
    Calls Ybaf.prog 11 #[.iface 95 (.pointer (some ⟨pb, po, none⟩)), .iface 69 (.pointer (some b))] w fun e w' => e = .returned (.bool true) ∧ w' = w := by
  obtain ⟨i, hi, hcmp⟩ := Option.map_eq_some_iff.1 Ybaf.isComp
  obtain ⟨j, hj, hjs⟩ := Option.map_eq_some_iff.1 Ybaf.isSize
  have h8 := @run_callFunc_extern Ybaf.prog 26 _ Extern.ReflectliteType.typeOf Ybaf.func26 (by kernel_rfl) (by kernel_rfl) (by kernel_rfl) (by kernel_rfl)
  have tT := Ybaf.isTypeOf
  have cT := Ybaf.isComparable
  have mR := Ybaf.isMethodComparable
  have nW := Ybaf.noIsW
  have uW := Ybaf.hasUnwrapW
  have mU := Ybaf.methodUnwrap
  have heq := run_eql_iface_ptr_same (P := Ybaf.prog) w b Ybaf.underlying29 Ybaf.underlying69 hi hcmp hj
  have hty := run_eql_iface_types (P := Ybaf.prog) 95 69 (.pointer (some ⟨pb, po, none⟩)) (.pointer (some b)) Ybaf.underlying29 (by decide) w
  go_enter Ybaf.func11, Ybaf.ntmps11
  go_wp2
  refine wp_loop_rounds 2 ?_
  rw [rounds_succ]
  go_wp2
  rw [rounds_succ]
  go_wp2
  go_ret
  exact ⟨rfl, rfl⟩
end Go.Proofs.YbulklyFmt
