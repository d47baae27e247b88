/-
  THE CLOSED FACTS FOR A WALK OVER fmt's STOPPED FRONT, for this program (after a worked example's text, turned to this dump's numbers).
-/
import Derived.Test.YbulklyFmtChecked
import Derived.Test.YbulklyFmtRows
import Derived.Stop.CallBack
import Derived.Stop.IfaceNil
import Derived.Stop.FmtTextLaws
import GoSem.ClaimData
import Derived.KernelRfl
namespace Go.Proofs.YbulklyFmt
open Go.Extern.Stop Go.Stop Go.Extern

theorem Ybaf.call36 (args : Array Value) (w : World) : (callFunc 36 args).run Ybaf.prog w = ((FmtStop.errorf #[9, 94] #[29] args).run Ybaf.prog w).andThen fun v w' => .ok (.value v) w' :=
  run_callFunc_extern Ybaf.func36 (by kernel_rfl) (by kernel_rfl) (by kernel_rfl) (by kernel_rfl) args w
theorem Ybaf.guard (name : String) (w : World) : (FmtStop.guard name).run Ybaf.prog w = .ok () w := by kernel_rfl
-- operands: 1
theorem Ybaf.fmt0 : FmtStop.printed? ⟨#[37, 100, 32, 98, 121, 116, 101, 115, 32, 108, 101, 102, 116, 32, 97, 102, 116, 101, 114, 32, 116, 104, 101, 32, 108, 97, 115, 116, 32, 118, 97, 108, 117, 101]⟩ 1 = some [(0, 100, false)] := by kernel_rfl
theorem Ybaf.fmt0r (w : World) : (FmtDoors.printed ⟨#[37, 100, 32, 98, 121, 116, 101, 115, 32, 108, 101, 102, 116, 32, 97, 102, 116, 101, 114, 32, 116, 104, 101, 32, 108, 97, 115, 116, 32, 118, 97, 108, 117, 101]⟩ 1).run Ybaf.prog w = .ok [(0, 100, false)] w := by kernel_rfl
theorem Ybaf.fmt1 : FmtStop.printed? ⟨#[37, 100, 32, 98, 121, 116, 101, 115, 32, 108, 101, 102, 116, 32, 97, 102, 116, 101, 114, 32, 116, 104, 101, 32, 108, 97, 115, 116, 32, 118, 97, 108, 117, 101]⟩ 0 = some [] := by kernel_rfl
theorem Ybaf.fmt1r (w : World) : (FmtDoors.printed ⟨#[37, 100, 32, 98, 121, 116, 101, 115, 32, 108, 101, 102, 116, 32, 97, 102, 116, 101, 114, 32, 116, 104, 101, 32, 108, 97, 115, 116, 32, 118, 97, 108, 117, 101]⟩ 0).run Ybaf.prog w = .ok [] w := by kernel_rfl
-- operands: 3
theorem Ybaf.fmt2 : FmtStop.printed? ⟨#[112, 97, 121, 108, 111, 97, 100, 32, 101, 110, 100, 115, 32, 37, 100, 32, 98, 121, 116, 101, 115, 32, 105, 110, 116, 111, 32, 97, 32, 37, 115, 58, 32, 37, 119]⟩ 3 = some [(0, 100, false), (1, 115, false), (2, 119, false)] := by kernel_rfl
theorem Ybaf.fmt2r (w : World) : (FmtDoors.printed ⟨#[112, 97, 121, 108, 111, 97, 100, 32, 101, 110, 100, 115, 32, 37, 100, 32, 98, 121, 116, 101, 115, 32, 105, 110, 116, 111, 32, 97, 32, 37, 115, 58, 32, 37, 119]⟩ 3).run Ybaf.prog w = .ok [(0, 100, false), (1, 115, false), (2, 119, false)] w := by kernel_rfl
theorem Ybaf.fmt3 : FmtStop.printed? ⟨#[112, 97, 121, 108, 111, 97, 100, 32, 101, 110, 100, 115, 32, 37, 100, 32, 98, 121, 116, 101, 115, 32, 105, 110, 116, 111, 32, 97, 32, 37, 115, 58, 32, 37, 119]⟩ 0 = some [] := by kernel_rfl
theorem Ybaf.fmt3r (w : World) : (FmtDoors.printed ⟨#[112, 97, 121, 108, 111, 97, 100, 32, 101, 110, 100, 115, 32, 37, 100, 32, 98, 121, 116, 101, 115, 32, 105, 110, 116, 111, 32, 97, 32, 37, 115, 58, 32, 37, 119]⟩ 0).run Ybaf.prog w = .ok [] w := by kernel_rfl
def Ybaf.shape9 : List UInt8 := [12, 6, 0, 0, 0, 0, 0, 0, 0, 115, 116, 114, 105, 110, 103]
def Ybaf.shape3 : List UInt8 := [5, 3, 0, 0, 0, 0, 0, 0, 0, 105, 110, 116]
theorem Ybaf.op9_115w (name : String) (x : ByteArray) (w : World) : (FmtStop.operand name true 115 false (.iface 9 (.string x))).run Ybaf.prog w = .ok (Ybaf.shape9, FmtStop.pack x.data.toList) w := by kernel_rfl
theorem Ybaf.strict9 (name : String) (x : ByteArray) (w : World) : (FmtStop.strict name (.iface 9 (.string x))).run Ybaf.prog w = .ok (Ybaf.shape9, FmtStop.pack x.data.toList) w := by kernel_rfl
theorem Ybaf.op3_100w (name : String) (x : Int) (w : World) : (FmtStop.operand name true 100 false (.iface 3 (.int .i64 x))).run Ybaf.prog w = .ok (Ybaf.shape3, Go.Extern.Stop.digits 8 (x % 2 ^ 64).toNat) w := by kernel_rfl
theorem Ybaf.strict3 (name : String) (x : Int) (w : World) : (FmtStop.strict name (.iface 3 (.int .i64 x))).run Ybaf.prog w = .ok (Ybaf.shape3, Go.Extern.Stop.digits 8 (x % 2 ^ 64).toNat) w := by kernel_rfl
theorem Ybaf.ptr69 (w : World) : (FmtStop.ptrTo "errors.errorString").run Ybaf.prog w = .ok 69 w := by kernel_rfl
theorem Ybaf.elem69 (w : World) : (elemOf 69).run Ybaf.prog w = .ok 71 w := by kernel_rfl
theorem Ybaf.ptr95 (w : World) : (FmtStop.ptrTo "fmt.wrapError").run Ybaf.prog w = .ok 95 w := by kernel_rfl
theorem Ybaf.elem95 (w : World) : (elemOf 95).run Ybaf.prog w = .ok 146 w := by kernel_rfl
theorem Ybaf.isError69' (w : World) : (FmtDoors.textMethod 69 "Error").run Ybaf.prog w = .ok true w := by kernel_rfl
theorem Ybaf.isError95' (w : World) : (FmtDoors.textMethod 95 "Error").run Ybaf.prog w = .ok true w := by kernel_rfl
def Ybaf.star : String := String.singleton (Char.ofNat 42) ++ "errors.errorString"
def Ybaf.plain69 : List UInt8 := 14 :: FmtStop.pack Ybaf.star.toUTF8.data.toList
theorem Ybaf.opPlain69_119w (name : String) (a : Addr) (s : ByteArray) (w : World) (hc : w.cell? a = some (.string s)) :
    (FmtStop.operand name true 119 false (.iface 69 (.pointer (some a)))).run Ybaf.prog w = .ok (Ybaf.plain69, s.data.toList) w := by
  have h1 : (typeStr 69).run Ybaf.prog w = .ok Ybaf.star w := by kernel_rfl
  have d2 : Ybaf.t69.desc = .pointer 71 := rfl
  have d3 : Ybaf.t71.desc = .named "errors.errorString" 70 := rfl
  simp [FmtStop.operand, h1, d2, d3, run_load, hc, Ybaf.plain69]
end Go.Proofs.YbulklyFmt
