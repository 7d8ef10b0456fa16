/-
  THE CLOSED FACTS FOR A WALK OVER fmt.errorf's STOP, at this program's numbers (after the guide's Check family).
-/
import Derived.Test.YbulkehjoFmtProg
import Derived.Stop.CallBack
import Derived.Stop.IfaceNil
import GoSem.ClaimData
namespace Go.Proofs.YbulkehjoFmt
open Go.Extern.Stop Go.Stop Go.Extern

theorem Ybaf.call7 (args : Array Value) (w : World) : (callFunc 7 args).run Ybaf.prog w = ((FmtStop.errorf #[9, 40] #[36] args).run Ybaf.prog w).andThen fun v w' => .ok (.value v) w' :=
  run_callFunc_extern Ybaf.func7 (by kernel_rfl) (by kernel_rfl) (by kernel_rfl) (by kernel_rfl) args w
theorem Ybaf.guard (name : String) (w : World) : (FmtStop.guard name).run Ybaf.prog w = .ok () w := by kernel_rfl
theorem Ybaf.fmt0 : FmtStop.printed? ⟨#[114, 101, 112, 117, 116, 97, 116, 105, 111, 110, 32, 37, 113, 32, 105, 115, 32, 110, 111, 116, 32, 37, 113, 44, 32, 37, 113, 32, 111, 114, 32, 37, 113]⟩ 4 = some [(0, 113, false), (1, 113, false), (2, 113, false), (3, 113, false)] := by kernel_rfl
theorem Ybaf.fmt0r (w : World) : (FmtDoors.printed ⟨#[114, 101, 112, 117, 116, 97, 116, 105, 111, 110, 32, 37, 113, 32, 105, 115, 32, 110, 111, 116, 32, 37, 113, 44, 32, 37, 113, 32, 111, 114, 32, 37, 113]⟩ 4).run Ybaf.prog w = .ok [(0, 113, false), (1, 113, false), (2, 113, false), (3, 113, false)] w := by kernel_rfl
def Ybaf.shape9 : List UInt8 := [12, 6, 0, 0, 0, 0, 0, 0, 0, 115, 116, 114, 105, 110, 103]
theorem Ybaf.op9_113w (name : String) (x : ByteArray) (w : World) : (FmtStop.operand name true 113 false (.iface 9 (.string x))).run Ybaf.prog w = .ok (Ybaf.shape9, FmtStop.pack x.data.toList) w := by kernel_rfl
theorem Ybaf.op9_113 (name : String) (x : ByteArray) (w : World) : (FmtStop.operand name false 113 false (.iface 9 (.string x))).run Ybaf.prog w = .ok (Ybaf.shape9, FmtStop.pack x.data.toList) w := by kernel_rfl
theorem Ybaf.ptr43 (w : World) : (FmtStop.ptrTo "errors.errorString").run Ybaf.prog w = .ok 43 w := by kernel_rfl
theorem Ybaf.elem43 (w : World) : (elemOf 43).run Ybaf.prog w = .ok 45 w := by kernel_rfl
theorem Ybaf.isError43 (w : World) : (FmtDoors.textMethod 43 "Error").run Ybaf.prog w = .ok true w := by kernel_rfl
end Go.Proofs.YbulkehjoFmt
