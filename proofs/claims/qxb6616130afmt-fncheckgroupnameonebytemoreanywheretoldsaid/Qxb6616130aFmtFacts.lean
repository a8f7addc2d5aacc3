/-
  THE CLOSED FACTS FOR A WALK OVER fmt.errorf (a plain stop) at this program's own numbers, after the guide's CheckFmt.lean (which the guide's kit prints for a program of its own; here typed for this one). Each is proved by the kernel's evaluation.
-/
import Derived.Test.Qxb6616130aFmtProg
import Derived.Stop.CallBack
import Derived.Stop.IfaceNil
import Derived.KernelRfl
import GoSem.ClaimData
namespace Go.Proofs.Qxb6616130aFmt
open Go.Extern.Stop Go.Stop Go.Extern

-- fmt.errorf: function 24: a plain stop
theorem call24 (args : Array Value) (w : World) : (callFunc 24 args).run Tryf.prog w = ((FmtStop.errorf #[9, 53] #[30] args).run Tryf.prog w).andThen fun v w' => .ok (.value v) w' :=
  run_callFunc_extern Tryf.func24 (by kernel_rfl) (by kernel_rfl) (by kernel_rfl) (by kernel_rfl) args w

theorem guardF (name : String) (w : World) : (FmtStop.guard name).run Tryf.prog w = .ok () w := by kernel_rfl

-- the format, with two operands
theorem fmt0 : FmtStop.printed? ⟨#[97, 32, 37, 115, 32, 110, 97, 109, 101, 32, 105, 115, 32, 97, 32, 115, 116, 114, 105, 110, 103, 32, 111, 102, 32, 49, 32, 116, 111, 32, 37, 100, 32, 98, 121, 116, 101, 115]⟩ 2 = some [(0, 115, false), (1, 100, false)] := by kernel_rfl
theorem fmt0r (w : World) : (FmtDoors.printed ⟨#[97, 32, 37, 115, 32, 110, 97, 109, 101, 32, 105, 115, 32, 97, 32, 115, 116, 114, 105, 110, 103, 32, 111, 102, 32, 49, 32, 116, 111, 32, 37, 100, 32, 98, 121, 116, 101, 115]⟩ 2).run Tryf.prog w = .ok [(0, 115, false), (1, 100, false)] w := by kernel_rfl

def shape9 : List UInt8 := [12, 6, 0, 0, 0, 0, 0, 0, 0, 115, 116, 114, 105, 110, 103]
theorem op9_115w (name : String) (x : ByteArray) (w : World) : (FmtStop.operand name true 115 false (.iface 9 (.string x))).run Tryf.prog w = .ok (shape9, FmtStop.pack x.data.toList) w := by kernel_rfl
theorem strict9 (name : String) (x : ByteArray) (w : World) : (FmtStop.strict name (.iface 9 (.string x))).run Tryf.prog w = .ok (shape9, FmtStop.pack x.data.toList) w := by kernel_rfl
def shape3 : List UInt8 := [5, 3, 0, 0, 0, 0, 0, 0, 0, 105, 110, 116]
theorem op3_100w (name : String) (x : Int) (w : World) : (FmtStop.operand name true 100 false (.iface 3 (.int .i64 x))).run Tryf.prog w = .ok (shape3, Go.Extern.Stop.digits 8 (x % 2 ^ 64).toNat) w := by kernel_rfl
theorem strict3 (name : String) (x : Int) (w : World) : (FmtStop.strict name (.iface 3 (.int .i64 x))).run Tryf.prog w = .ok (shape3, Go.Extern.Stop.digits 8 (x % 2 ^ 64).toNat) w := by kernel_rfl

-- the error type that fmt.errorf makes without a wrap
theorem ptr55 (w : World) : (FmtStop.ptrTo "errors.errorString").run Tryf.prog w = .ok 55 w := by kernel_rfl
theorem elem55 (w : World) : (elemOf 55).run Tryf.prog w = .ok 57 w := by kernel_rfl
theorem isError55 (w : World) : (FmtDoors.textMethod 55 "Error").run Tryf.prog w = .ok true w := by kernel_rfl

end Go.Proofs.Qxb6616130aFmt
