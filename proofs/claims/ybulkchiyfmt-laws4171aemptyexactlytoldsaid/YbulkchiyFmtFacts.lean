/- THE CLOSED FACTS FOR A WALK OVER fmt.Sprintf AT THIS PROGRAM's NUMBERS (function 13 is fmt.Sprintf; 78: the variadic slice's type; 9: string): after the guide's LabelFmt.lean. -/
import Derived.Test.YbulkchiyFmtRows
import Derived.Stop.CallBack
import Derived.Stop.IfaceNil
import GoSem.ClaimData
namespace Go.Proofs.YbulkchiyFmt
open Go.Extern.Stop Go.Stop Go.Extern

theorem call13 (args : Array Value) (w : World) : (callFunc 13 args).run Ybaf.prog w = ((FmtStop.sprintf #[9, 78] #[9] args).run Ybaf.prog w).andThen fun v w' => .ok (.value v) w' :=
  run_callFunc_extern Ybaf.func13 (by kernel_rfl) (by kernel_rfl) (by kernel_rfl) (by kernel_rfl) args w
theorem fguard (name : String) (w : World) : (FmtStop.guard name).run Ybaf.prog w = .ok () w := by kernel_rfl
-- the two formats
theorem fmtA : FmtStop.printed? ⟨#[116, 114, 97, 110, 115, 97, 99, 116, 105, 111, 110, 32, 73, 68, 32, 37, 113]⟩ 1 = some [(0, 113, false)] := by kernel_rfl
theorem fmtAr (w : World) : (FmtDoors.printed ⟨#[116, 114, 97, 110, 115, 97, 99, 116, 105, 111, 110, 32, 73, 68, 32, 37, 113]⟩ 1).run Ybaf.prog w = .ok [(0, 113, false)] w := by kernel_rfl
theorem fmtB : FmtStop.printed? ⟨#[37, 115, 59, 32, 116, 104, 101, 32, 112, 111, 114, 116, 39, 115, 44, 32, 102, 114, 111, 109, 32, 105, 116, 115, 32, 102, 105, 114, 115, 116, 32, 109, 101, 115, 115, 97, 103, 101, 44, 32, 105, 115, 32, 37, 113]⟩ 2 = some [(0, 115, false), (1, 113, false)] := by kernel_rfl
theorem fmtBr (w : World) : (FmtDoors.printed ⟨#[37, 115, 59, 32, 116, 104, 101, 32, 112, 111, 114, 116, 39, 115, 44, 32, 102, 114, 111, 109, 32, 105, 116, 115, 32, 102, 105, 114, 115, 116, 32, 109, 101, 115, 115, 97, 103, 101, 44, 32, 105, 115, 32, 37, 113]⟩ 2).run Ybaf.prog w = .ok [(0, 115, false), (1, 113, false)] w := by kernel_rfl
/-- A string operand's shape. -/
def shape9 : List UInt8 := [12, 6, 0, 0, 0, 0, 0, 0, 0, 115, 116, 114, 105, 110, 103]
theorem op9_115 (name : String) (x : ByteArray) (w : World) : (FmtStop.operand name false 115 false (.iface 9 (.string x))).run Ybaf.prog w = .ok (shape9, FmtStop.pack x.data.toList) w := by kernel_rfl
theorem op9_113 (name : String) (x : ByteArray) (w : World) : (FmtStop.operand name false 113 false (.iface 9 (.string x))).run Ybaf.prog w = .ok (shape9, FmtStop.pack x.data.toList) w := by kernel_rfl
end Go.Proofs.YbulkchiyFmt
