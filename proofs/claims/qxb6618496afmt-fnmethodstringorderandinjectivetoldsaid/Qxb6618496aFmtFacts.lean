/-
  THE CLOSED FACTS FOR A WALK OVER fmt.Sprintf (a stop that calls its operands' methods) in this seat's program. Each by the kernel's own evaluation.
-/
import Derived.Test.Qxb6618496aFmtRows
import Derived.Stop.CallBack
import Derived.Stop.IfaceNil
import GoSem.ClaimData
namespace Go.Proofs.Qxb6618496aFmt
open Go.Extern.Stop Go.Stop Go.Extern

-- fmt.Sprintf: function 11
theorem t_call11 (args : Array Value) (w : World) : (callFunc 11 args).run Tryf.prog w = (FmtCalls.sprintf #[9, 48] #[9] args).run Tryf.prog w :=
  run_callFunc_next Tryf.func11 (by kernel_rfl) (by kernel_rfl) (by kernel_rfl) args w
theorem t_guard (name : String) (w : World) : (FmtStop.guard name).run Tryf.prog w = .ok () w := by kernel_rfl
theorem t_nextTurns : Extern.next FmtCalls.turnsRow = some (FmtCalls.begun #[] #[]) := by kernel_rfl

-- the format, two operands
theorem t_fmt : FmtStop.printed? ⟨#[37, 100, 46, 37, 100]⟩ 2 = some [(0, 100, false), (1, 100, false)] := by kernel_rfl
theorem t_fmtr (w : World) : (FmtDoors.printed ⟨#[37, 100, 46, 37, 100]⟩ 2).run Tryf.prog w = .ok [(0, 100, false), (1, 100, false)] w := by kernel_rfl

-- type 30: amqp.method
def shape30 : List UInt8 := [8, 11, 0, 0, 0, 0, 0, 0, 0, 97, 109, 113, 112, 46, 109, 101, 116, 104, 111, 100]
theorem t_act30 (name : String) (x : Value) (w : World) : (FmtCalls.act name false 100 false (.iface 30 x)).run Tryf.prog w = .ok (.closed false) w := by kernel_rfl
theorem t_op30 (name : String) (x : Int) (w : World) : (FmtStop.operand name false 100 false (.iface 30 (.int .u32 x))).run Tryf.prog w = .ok (shape30, Go.Extern.Stop.digits 8 (x % 2 ^ 64).toNat) w := by kernel_rfl
theorem t_str30 (w : World) : (typeStr 30).run Tryf.prog w = .ok "amqp.method" w := by kernel_rfl

end Go.Proofs.Qxb6618496aFmt
