import Derived.Test.YbulkbgqwFmtRows
import Derived.Stop.CallBack
import Derived.Stop.IfaceNil
import GoSem.ClaimData
namespace Go.Proofs.YbulkbgqwFmt
open Go.Extern.Stop Go.Stop Go.Extern

/-- fmt.errorf: function 16: a stop that calls its operands' Error(). -/
theorem Ybaf.call16 (args : Array Value) (w : World) : (callFunc 16 args).run Ybaf.prog w = (FmtCalls.errorf #[9, 49] #[23] args).run Ybaf.prog w :=
  run_callFunc_next Ybaf.func16 (by kernel_rfl) (by kernel_rfl) (by kernel_rfl) args w
theorem Ybaf.guard (name : String) (w : World) : (FmtStop.guard name).run Ybaf.prog w = .ok () w := by kernel_rfl
theorem Ybaf.nextTurns : Extern.next FmtCalls.turnsRow = some (FmtCalls.begun #[] #[]) := by kernel_rfl
theorem Ybaf.nextReturned : Extern.next FmtCalls.returnedRow = some (FmtCalls.returned #[] #[]) := by kernel_rfl
theorem Ybaf.fmt0 : FmtStop.printed? ⟨#[100, 105, 97, 109, 101, 116, 101, 114, 58, 32, 114, 101, 97, 100, 105, 110, 103, 32, 97, 32, 109, 101, 115, 115, 97, 103, 101, 58, 32, 37, 119]⟩ 1 = some [(0, 119, false)] := by kernel_rfl
theorem Ybaf.fmt0r (w : World) : (FmtDoors.printed ⟨#[100, 105, 97, 109, 101, 116, 101, 114, 58, 32, 114, 101, 97, 100, 105, 110, 103, 32, 97, 32, 109, 101, 115, 115, 97, 103, 101, 58, 32, 37, 119]⟩ 1).run Ybaf.prog w = .ok [(0, 119, false)] w := by kernel_rfl
theorem Ybaf.actNil (name : String) (w : World) : (FmtCalls.act name true 119 false .nilIface).run Ybaf.prog w = .ok (.closed true) w := by kernel_rfl
theorem Ybaf.opNil (name : String) (w : World) : (FmtStop.operand name true 119 false .nilIface).run Ybaf.prog w = .ok ([0], []) w := by kernel_rfl
theorem Ybaf.act26 (name : String) (x : Value) (w : World) : (FmtCalls.act name true 119 false (.iface 26 x)).run Ybaf.prog w = .ok (.call true) w := by kernel_rfl
theorem Ybaf.isError26 (w : World) : (FmtDoors.textMethod 26 "Error").run Ybaf.prog w = .ok true w := by kernel_rfl
theorem Ybaf.invokeError26 (x : Value) (w : World) : (invoke (.fn (.method "Error") #[]) #[.iface 26 x]).run Ybaf.prog w = .ok (.enter 37 #[x]) w := by kernel_rfl
theorem Ybaf.ptr51 (w : World) : (FmtStop.ptrTo "fmt.wrapError").run Ybaf.prog w = .ok 51 w := by kernel_rfl
theorem Ybaf.elem51 (w : World) : (elemOf 51).run Ybaf.prog w = .ok 91 w := by kernel_rfl
/-- The format of readError. -/
def fmtBytes : List UInt8 := [100, 105, 97, 109, 101, 116, 101, 114, 58, 32, 114, 101, 97, 100, 105, 110, 103, 32, 97, 32, 109, 101, 115, 115, 97, 103, 101, 58, 32, 37, 119]
end Go.Proofs.YbulkbgqwFmt
