/-
  Closed facts for the walks over fmt's stopped fronts in this program's dump, each by the kernel.
-/
import Derived.Test.Qxb6615834aFmtChecked
import Derived.Stop.CallBack
import Derived.Stop.IfaceNil
import GoSem.ClaimData
namespace Go.Proofs.Qxb6615834aFmt
open Go.Extern.Stop Go.Stop Go.Extern

theorem fc_call43 (args : Array Value) (w : World) : (callFunc 43 args).run Tryf.prog w = ((FmtStop.errorf #[9, 83] #[25] args).run Tryf.prog w).andThen fun v w' => .ok (.value v) w' :=
  run_callFunc_extern Tryf.func43 (by kernel_rfl) (by kernel_rfl) (by kernel_rfl) (by kernel_rfl) args w
theorem fc_guard (name : String) (w : World) : (FmtStop.guard name).run Tryf.prog w = .ok () w := by kernel_rfl
theorem fc_party3 (w : World) : (FmtDoors.printed ⟨#[37, 115, 32, 105, 115, 32, 112, 97, 114, 116, 121, 32, 37, 100, 59, 32, 112, 97, 114, 116, 105, 101, 115, 32, 97, 114, 101, 32, 49, 32, 116, 111, 32, 37, 100]⟩ 3).run Tryf.prog w = .ok [(0, 115, false), (1, 100, false), (2, 100, false)] w := by kernel_rfl
theorem fc_party3p : FmtStop.printed? ⟨#[37, 115, 32, 105, 115, 32, 112, 97, 114, 116, 121, 32, 37, 100, 59, 32, 112, 97, 114, 116, 105, 101, 115, 32, 97, 114, 101, 32, 49, 32, 116, 111, 32, 37, 100]⟩ 3 = some [(0, 115, false), (1, 100, false), (2, 100, false)] := by kernel_rfl
def shape9 : List UInt8 := [12, 6, 0, 0, 0, 0, 0, 0, 0, 115, 116, 114, 105, 110, 103]
def shape3 : List UInt8 := [5, 3, 0, 0, 0, 0, 0, 0, 0, 105, 110, 116]
theorem fc_op9_115 (name : String) (x : ByteArray) (w : World) : (FmtStop.operand name false 115 false (.iface 9 (.string x))).run Tryf.prog w = .ok (shape9, FmtStop.pack x.data.toList) w := by kernel_rfl
theorem fc_op3_100 (name : String) (x : Int) (w : World) : (FmtStop.operand name false 100 false (.iface 3 (.int .i64 x))).run Tryf.prog w = .ok (shape3, Go.Extern.Stop.digits 8 (x % 2 ^ 64).toNat) w := by kernel_rfl
theorem fc_op9_115w (name : String) (x : ByteArray) (w : World) : (FmtStop.operand name true 115 false (.iface 9 (.string x))).run Tryf.prog w = .ok (shape9, FmtStop.pack x.data.toList) w := by kernel_rfl
theorem fc_op3_100w (name : String) (x : Int) (w : World) : (FmtStop.operand name true 100 false (.iface 3 (.int .i64 x))).run Tryf.prog w = .ok (shape3, Go.Extern.Stop.digits 8 (x % 2 ^ 64).toNat) w := by kernel_rfl
theorem fc_ptr89 (w : World) : (FmtStop.ptrTo "errors.errorString").run Tryf.prog w = .ok 89 w := by kernel_rfl
theorem fc_elem89 (w : World) : (elemOf 89).run Tryf.prog w = .ok 91 w := by kernel_rfl
theorem fc_ptr85 (w : World) : (FmtStop.ptrTo "fmt.wrapError").run Tryf.prog w = .ok 85 w := by kernel_rfl
theorem fc_elem85 (w : World) : (elemOf 85).run Tryf.prog w = .ok 128 w := by kernel_rfl
theorem fc_isError89 (w : World) : (FmtDoors.textMethod 89 "Error").run Tryf.prog w = .ok true w := by kernel_rfl
end Go.Proofs.Qxb6615834aFmt
