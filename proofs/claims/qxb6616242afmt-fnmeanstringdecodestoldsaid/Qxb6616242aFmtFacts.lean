/-
  THE CLOSED FACTS FOR A WALK OVER fmt.Sprintf (a plain stop) at this program's own numbers, after the guide's LabelFmt.lean (which the guide's kit prints for a program of its own; here typed for this one). Each is proved by the kernel's evaluation.
-/
import Derived.Test.Qxb6616242aFmtProg
import Derived.Stop.CallBack
import Derived.Stop.IfaceNil
import Derived.KernelRfl
import GoSem.ClaimData
namespace Go.Proofs.Qxb6616242aFmt
open Go.Extern.Stop Go.Stop Go.Extern

-- fmt.Sprintf: function 12: a plain stop
theorem call12 (args : Array Value) (w : World) : (callFunc 12 args).run Tryf.prog w = ((FmtStop.sprintf #[9, 49] #[9] args).run Tryf.prog w).andThen fun v w' => .ok (.value v) w' :=
  run_callFunc_extern Tryf.func12 (by kernel_rfl) (by kernel_rfl) (by kernel_rfl) (by kernel_rfl) args w

theorem guardF (name : String) (w : World) : (FmtStop.guard name).run Tryf.prog w = .ok () w := by kernel_rfl

-- the format "mean %s over %d years", with two operands
theorem fmt0 : FmtStop.printed? ⟨#[109, 101, 97, 110, 32, 37, 115, 32, 111, 118, 101, 114, 32, 37, 100, 32, 121, 101, 97, 114, 115]⟩ 2 = some [(0, 115, false), (1, 100, false)] := by kernel_rfl
theorem fmt0r (w : World) : (FmtDoors.printed ⟨#[109, 101, 97, 110, 32, 37, 115, 32, 111, 118, 101, 114, 32, 37, 100, 32, 121, 101, 97, 114, 115]⟩ 2).run Tryf.prog w = .ok [(0, 115, false), (1, 100, false)] w := by kernel_rfl

def shape9 : List UInt8 := [12, 6, 0, 0, 0, 0, 0, 0, 0, 115, 116, 114, 105, 110, 103]
theorem op9_115 (name : String) (x : ByteArray) (w : World) : (FmtStop.operand name false 115 false (.iface 9 (.string x))).run Tryf.prog w = .ok (shape9, FmtStop.pack x.data.toList) w := by kernel_rfl
theorem strict9 (name : String) (x : ByteArray) (w : World) : (FmtStop.strict name (.iface 9 (.string x))).run Tryf.prog w = .ok (shape9, FmtStop.pack x.data.toList) w := by kernel_rfl
def shape3 : List UInt8 := [5, 3, 0, 0, 0, 0, 0, 0, 0, 105, 110, 116]
theorem op3_100 (name : String) (x : Int) (w : World) : (FmtStop.operand name false 100 false (.iface 3 (.int .i64 x))).run Tryf.prog w = .ok (shape3, Go.Extern.Stop.digits 8 (x % 2 ^ 64).toNat) w := by kernel_rfl
theorem strict3 (name : String) (x : Int) (w : World) : (FmtStop.strict name (.iface 3 (.int .i64 x))).run Tryf.prog w = .ok (shape3, Go.Extern.Stop.digits 8 (x % 2 ^ 64).toNat) w := by kernel_rfl

end Go.Proofs.Qxb6616242aFmt
