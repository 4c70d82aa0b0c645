/-
  THE CLOSED FACTS FOR A WALK OVER fmt.errorf (typed after a worked example's printed facts), at this seat's dump: each by the kernel's own evaluation.
-/
import Derived.Test.YbulkabxgFmtRows
import Derived.Stop.CallBack
import Derived.Stop.IfaceNil
import GoSem.ClaimData
namespace Go.Proofs.YbulkabxgFmt
open Go.Extern.Stop Go.Stop Go.Extern

theorem call10 (args : Array Value) (w : World) : (callFunc 10 args).run Ybaf.prog w = ((FmtStop.errorf #[9, 38] #[24] args).run Ybaf.prog w).andThen fun v w' => .ok (.value v) w' :=
  run_callFunc_extern Ybaf.func10 (by kernel_rfl) (by kernel_rfl) (by kernel_rfl) (by kernel_rfl) args w
theorem guard10 (name : String) (w : World) : (FmtStop.guard name).run Ybaf.prog w = .ok () w := by kernel_rfl
theorem fmt0 : FmtStop.printed? ⟨#[117, 110, 107, 110, 111, 119, 110, 32, 116, 105, 109, 101, 32, 102, 111, 114, 109, 97, 116, 32, 37, 113, 32, 40, 107, 110, 111, 119, 110, 58, 32, 104, 101, 120, 44, 32, 72, 69, 88, 44, 32, 100, 101, 99, 41]⟩ 1 = some [(0, 113, false)] := by kernel_rfl
theorem fmt0r (w : World) : (FmtDoors.printed ⟨#[117, 110, 107, 110, 111, 119, 110, 32, 116, 105, 109, 101, 32, 102, 111, 114, 109, 97, 116, 32, 37, 113, 32, 40, 107, 110, 111, 119, 110, 58, 32, 104, 101, 120, 44, 32, 72, 69, 88, 44, 32, 100, 101, 99, 41]⟩ 1).run Ybaf.prog w = .ok [(0, 113, false)] w := by kernel_rfl
theorem fmt1 : FmtStop.printed? ⟨#[117, 110, 107, 110, 111, 119, 110, 32, 116, 105, 109, 101, 32, 102, 111, 114, 109, 97, 116, 32, 37, 113, 32, 40, 107, 110, 111, 119, 110, 58, 32, 104, 101, 120, 44, 32, 72, 69, 88, 44, 32, 100, 101, 99, 41]⟩ 0 = some [] := by kernel_rfl
theorem fmt1r (w : World) : (FmtDoors.printed ⟨#[117, 110, 107, 110, 111, 119, 110, 32, 116, 105, 109, 101, 32, 102, 111, 114, 109, 97, 116, 32, 37, 113, 32, 40, 107, 110, 111, 119, 110, 58, 32, 104, 101, 120, 44, 32, 72, 69, 88, 44, 32, 100, 101, 99, 41]⟩ 0).run Ybaf.prog w = .ok [] w := by kernel_rfl
def shape9 : List UInt8 := [12, 6, 0, 0, 0, 0, 0, 0, 0, 115, 116, 114, 105, 110, 103]
theorem op9_113 (name : String) (x : ByteArray) (w : World) : (FmtStop.operand name false 113 false (.iface 9 (.string x))).run Ybaf.prog w = .ok (shape9, FmtStop.pack x.data.toList) w := by kernel_rfl
theorem op9_113w (name : String) (x : ByteArray) (w : World) : (FmtStop.operand name true 113 false (.iface 9 (.string x))).run Ybaf.prog w = .ok (shape9, FmtStop.pack x.data.toList) w := by kernel_rfl
theorem strict9 (name : String) (x : ByteArray) (w : World) : (FmtStop.strict name (.iface 9 (.string x))).run Ybaf.prog w = .ok (shape9, FmtStop.pack x.data.toList) w := by kernel_rfl
theorem ptr41 (w : World) : (FmtStop.ptrTo "errors.errorString").run Ybaf.prog w = .ok 41 w := by kernel_rfl
theorem elem41 (w : World) : (elemOf 41).run Ybaf.prog w = .ok 43 w := by kernel_rfl
theorem isError41 (w : World) : (FmtDoors.textMethod 41 "Error").run Ybaf.prog w = .ok true w := by kernel_rfl

end Go.Proofs.YbulkabxgFmt
