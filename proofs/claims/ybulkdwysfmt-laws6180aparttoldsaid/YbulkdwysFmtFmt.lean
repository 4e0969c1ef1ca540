/-
  THE CLOSED FACTS FOR A WALK OVER fmt.Sprintf's STOP in ybulkdwysfmt's dump: after the guide's LabelFmt.lean, at this dump's numbers.
-/
import Derived.Test.YbulkdwysFmtProg
import Derived.Stop.CallBack
import Derived.Stop.IfaceNil
import GoSem.ClaimData
namespace Go.Proofs
open Go.Extern.Stop Go.Stop Go.Extern

-- fmt.Sprintf: function 7: a plain stop
@[go_sem] theorem Ybaf.call7 (args : Array Value) (w : World) : (callFunc 7 args).run Ybaf.prog w = ((FmtStop.sprintf #[9, 44] #[9] args).run Ybaf.prog w).andThen fun v w' => .ok (.value v) w' :=
  run_callFunc_extern Ybaf.func7 (by kernel_rfl) (by kernel_rfl) (by kernel_rfl) (by kernel_rfl) args w

@[go_sem] theorem Ybaf.guard (name : String) (w : World) : (FmtStop.guard name).run Ybaf.prog w = .ok () w := by kernel_rfl

-- "%q", 1 operand
@[go_sem] theorem Ybaf.fmt0 : FmtStop.printed? ⟨#[37, 113]⟩ 1 = some [(0, 113, false)] := by kernel_rfl
@[go_sem] theorem Ybaf.fmt0r (w : World) : (FmtDoors.printed ⟨#[37, 113]⟩ 1).run Ybaf.prog w = .ok [(0, 113, false)] w := by kernel_rfl
-- "%q...%q", 2 operands
@[go_sem] theorem Ybaf.fmt1 : FmtStop.printed? ⟨#[37, 113, 46, 46, 46, 37, 113]⟩ 2 = some [(0, 113, false), (1, 113, false)] := by kernel_rfl
@[go_sem] theorem Ybaf.fmt1r (w : World) : (FmtDoors.printed ⟨#[37, 113, 46, 46, 46, 37, 113]⟩ 2).run Ybaf.prog w = .ok [(0, 113, false), (1, 113, false)] w := by kernel_rfl

-- type 9: string
theorem Ybaf.name9 : Ybaf.prog.typeName? 3 9 = some "string" := by kernel_rfl
def Ybaf.shape9 : List UInt8 := [12, 6, 0, 0, 0, 0, 0, 0, 0, 115, 116, 114, 105, 110, 103]
@[go_sem] theorem Ybaf.op9_113 (name : String) (x : ByteArray) (w : World) : (FmtStop.operand name false 113 false (.iface 9 (.string x))).run Ybaf.prog w = .ok (Ybaf.shape9, FmtStop.pack x.data.toList) w := by kernel_rfl
end Go.Proofs
