import Derived.Test.Qxb6605972aFmtScan
import Derived.Stop.CallBack
import Derived.Stop.IfaceNil
import GoSem.ClaimData
namespace Go.Proofs.Qxb6605972aFmt
open Go.Extern.Stop Go.Stop Go.Extern

/-! The closed facts for a walk over the stopped front fmt.Sprintf (function 23, a stop that calls its operands' methods): turned to this program after the guide's worked NameFmt texts. -/
theorem call23 (args : Array Value) (w : World) : (callFunc 23 args).run Tryf.prog w = (FmtCalls.sprintf #[9, 68] #[9] args).run Tryf.prog w :=
  run_callFunc_next Tryf.func23 (by kernel_rfl) (by kernel_rfl) (by kernel_rfl) args w
theorem guardF (name : String) (w : World) : (FmtStop.guard name).run Tryf.prog w = .ok () w := by kernel_rfl
theorem nextTurns : Extern.next FmtCalls.turnsRow = some (FmtCalls.begun #[] #[]) := by kernel_rfl

theorem fmtA : FmtStop.printed? ⟨#[112, 114, 111, 103, 114, 101, 115, 115, 105, 118, 101, 32, 115, 99, 97, 110, 32, 111, 102, 32, 99, 111, 101, 102, 102, 105, 99, 105, 101, 110, 116, 115, 32, 37, 100, 32, 116, 111, 32, 37, 100, 44, 32, 98, 105, 116, 115, 32, 37, 100, 32, 116, 111, 32, 37, 100]⟩ 4 = some [(0, 100, false), (1, 100, false), (2, 100, false), (3, 100, false)] := by kernel_rfl
theorem fmtAr (w : World) : (FmtDoors.printed ⟨#[112, 114, 111, 103, 114, 101, 115, 115, 105, 118, 101, 32, 115, 99, 97, 110, 32, 111, 102, 32, 99, 111, 101, 102, 102, 105, 99, 105, 101, 110, 116, 115, 32, 37, 100, 32, 116, 111, 32, 37, 100, 44, 32, 98, 105, 116, 115, 32, 37, 100, 32, 116, 111, 32, 37, 100]⟩ 4).run Tryf.prog w = .ok [(0, 100, false), (1, 100, false), (2, 100, false), (3, 100, false)] w := by kernel_rfl
theorem fmtB : FmtStop.printed? ⟨#[112, 114, 111, 103, 114, 101, 115, 115, 105, 118, 101, 32, 115, 99, 97, 110, 32, 111, 102, 32, 116, 104, 101, 32, 68, 67, 32, 99, 111, 101, 102, 102, 105, 99, 105, 101, 110, 116, 32, 97, 110, 100, 32, 111, 116, 104, 101, 114, 115, 32, 116, 111, 103, 101, 116, 104, 101, 114]⟩ 0 = some [] := by kernel_rfl
theorem fmtBr (w : World) : (FmtDoors.printed ⟨#[112, 114, 111, 103, 114, 101, 115, 115, 105, 118, 101, 32, 115, 99, 97, 110, 32, 111, 102, 32, 116, 104, 101, 32, 68, 67, 32, 99, 111, 101, 102, 102, 105, 99, 105, 101, 110, 116, 32, 97, 110, 100, 32, 111, 116, 104, 101, 114, 115, 32, 116, 111, 103, 101, 116, 104, 101, 114]⟩ 0).run Tryf.prog w = .ok [] w := by kernel_rfl
theorem fmtC : FmtStop.printed? ⟨#[112, 114, 111, 103, 114, 101, 115, 115, 105, 118, 101, 32, 115, 99, 97, 110, 32, 111, 102, 32, 65, 67, 32, 99, 111, 101, 102, 102, 105, 99, 105, 101, 110, 116, 115, 32, 111, 102, 32, 37, 100, 32, 99, 111, 109, 112, 111, 110, 101, 110, 116, 115]⟩ 1 = some [(0, 100, false)] := by kernel_rfl
theorem fmtCr (w : World) : (FmtDoors.printed ⟨#[112, 114, 111, 103, 114, 101, 115, 115, 105, 118, 101, 32, 115, 99, 97, 110, 32, 111, 102, 32, 65, 67, 32, 99, 111, 101, 102, 102, 105, 99, 105, 101, 110, 116, 115, 32, 111, 102, 32, 37, 100, 32, 99, 111, 109, 112, 111, 110, 101, 110, 116, 115]⟩ 1).run Tryf.prog w = .ok [(0, 100, false)] w := by kernel_rfl

theorem name3 : Tryf.prog.typeName? 3 3 = some "int" := by kernel_rfl
def shape3 : List UInt8 := [5, 3, 0, 0, 0, 0, 0, 0, 0, 105, 110, 116]
theorem act3 (name : String) (x : Value) (w : World) : (FmtCalls.act name false 100 false (.iface 3 x)).run Tryf.prog w = .ok (.closed false) w := by kernel_rfl
theorem op3 (name : String) (x : Int) (w : World) : (FmtStop.operand name false 100 false (.iface 3 (.int .i64 x))).run Tryf.prog w = .ok (shape3, Go.Extern.Stop.digits 8 (x % 2 ^ 64).toNat) w := by kernel_rfl
theorem strict3 (name : String) (x : Int) (w : World) : (FmtStop.strict name (.iface 3 (.int .i64 x))).run Tryf.prog w = .ok (shape3, Go.Extern.Stop.digits 8 (x % 2 ^ 64).toNat) w := by kernel_rfl
theorem str3 (w : World) : (typeStr 3).run Tryf.prog w = .ok "int" w := by kernel_rfl
theorem name23 : Tryf.prog.typeName? 3 23 = some "uint" := by kernel_rfl
def shape23 : List UInt8 := [9, 4, 0, 0, 0, 0, 0, 0, 0, 117, 105, 110, 116]
theorem act23 (name : String) (x : Value) (w : World) : (FmtCalls.act name false 100 false (.iface 23 x)).run Tryf.prog w = .ok (.closed false) w := by kernel_rfl
theorem op23 (name : String) (x : Int) (w : World) : (FmtStop.operand name false 100 false (.iface 23 (.int .u64 x))).run Tryf.prog w = .ok (shape23, Go.Extern.Stop.digits 8 (x % 2 ^ 64).toNat) w := by kernel_rfl
theorem strict23 (name : String) (x : Int) (w : World) : (FmtStop.strict name (.iface 23 (.int .u64 x))).run Tryf.prog w = .ok (shape23, Go.Extern.Stop.digits 8 (x % 2 ^ 64).toNat) w := by kernel_rfl
theorem str23 (w : World) : (typeStr 23).run Tryf.prog w = .ok "uint" w := by kernel_rfl
end Go.Proofs.Qxb6605972aFmt
