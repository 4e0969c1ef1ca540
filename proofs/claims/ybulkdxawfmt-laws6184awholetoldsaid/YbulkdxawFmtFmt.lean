/-
  THE CLOSED FACTS FOR A WALK OVER fmt.errorf's STOP in ybulkdxawfmt's dump: after the guide's CheckFmt.lean, at this dump's numbers.
-/
import Derived.Test.YbulkdxawFmtProg
import Derived.Stop.CallBack
import Derived.Stop.IfaceNil
import GoSem.ClaimData
namespace Go.Proofs
open Go.Extern.Stop Go.Stop Go.Extern

-- fmt.errorf: function 7: a plain stop
@[go_sem] theorem Ybaf.call7 (args : Array Value) (w : World) : (callFunc 7 args).run Ybaf.prog w = ((FmtStop.errorf #[9, 47] #[41] args).run Ybaf.prog w).andThen fun v w' => .ok (.value v) w' :=
  run_callFunc_extern Ybaf.func7 (by kernel_rfl) (by kernel_rfl) (by kernel_rfl) (by kernel_rfl) args w

@[go_sem] theorem Ybaf.guard (name : String) (w : World) : (FmtStop.guard name).run Ybaf.prog w = .ok () w := by kernel_rfl

@[go_sem] theorem Ybaf.fmt0 : FmtStop.printed? ⟨#[116, 97, 98, 108, 101, 32, 37, 115, 58, 32, 109, 111, 114, 101, 32, 116, 104, 97, 110, 32, 111, 110, 101, 32, 112, 114, 105, 109, 97, 114, 121, 32, 107, 101, 121]⟩ 1 = some [(0, 115, false)] := by kernel_rfl
@[go_sem] theorem Ybaf.fmt0r (w : World) : (FmtDoors.printed ⟨#[116, 97, 98, 108, 101, 32, 37, 115, 58, 32, 109, 111, 114, 101, 32, 116, 104, 97, 110, 32, 111, 110, 101, 32, 112, 114, 105, 109, 97, 114, 121, 32, 107, 101, 121]⟩ 1).run Ybaf.prog w = .ok [(0, 115, false)] w := by kernel_rfl

theorem Ybaf.name9 : Ybaf.prog.typeName? 3 9 = some "string" := by kernel_rfl
def Ybaf.shape9 : List UInt8 := [12, 6, 0, 0, 0, 0, 0, 0, 0, 115, 116, 114, 105, 110, 103]
@[go_sem] theorem Ybaf.op9_115 (name : String) (x : ByteArray) (w : World) : (FmtStop.operand name false 115 false (.iface 9 (.string x))).run Ybaf.prog w = .ok (Ybaf.shape9, FmtStop.pack x.data.toList) w := by kernel_rfl
@[go_sem] theorem Ybaf.op9_115w (name : String) (x : ByteArray) (w : World) : (FmtStop.operand name true 115 false (.iface 9 (.string x))).run Ybaf.prog w = .ok (Ybaf.shape9, FmtStop.pack x.data.toList) w := by kernel_rfl

@[go_sem] theorem Ybaf.ptr50 (w : World) : (FmtStop.ptrTo "errors.errorString").run Ybaf.prog w = .ok 50 w := by kernel_rfl
@[go_sem] theorem Ybaf.elem50 (w : World) : (elemOf 50).run Ybaf.prog w = .ok 52 w := by kernel_rfl
@[go_sem] theorem Ybaf.isError50 (w : World) : (FmtDoors.textMethod 50 "Error").run Ybaf.prog w = .ok true w := by kernel_rfl
end Go.Proofs
