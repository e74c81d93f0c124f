/-
  THE CLOSED FACTS over this dump's one stop, fmt.Sprintf (function 6), each by the kernel's own evaluation. After the guide's LabelFmt.lean, turned to this program.
-/
import Derived.Test.YbulkazemFmtCards
import Derived.Stop.CallBack
import Derived.Stop.IfaceNil
import GoSem.ClaimData
namespace Go.Proofs.YbulkazemFmt
open Go.Extern.Stop Go.Stop Go.Extern

theorem call6 (args : Array Value) (w : World) : (callFunc 6 args).run Ybaf.prog w = ((FmtStop.sprintf #[9, 46] #[9] args).run Ybaf.prog w).andThen fun v w' => .ok (.value v) w' :=
  run_callFunc_extern Ybaf.func6 (by kernel_rfl) (by kernel_rfl) (by kernel_rfl) (by kernel_rfl) args w
theorem guardf (name : String) (w : World) : (FmtStop.guard name).run Ybaf.prog w = .ok () w := by kernel_rfl
theorem fmt0 : FmtStop.printed? ⟨#[37, 45, 56, 46, 56, 115, 37, 45, 49, 54, 46, 49, 54, 115, 37, 45, 52, 46, 52, 115]⟩ 3 = some [(0, 115, false), (1, 115, false), (2, 115, false)] := by kernel_rfl
theorem fmt0r (w : World) : (FmtDoors.printed ⟨#[37, 45, 56, 46, 56, 115, 37, 45, 49, 54, 46, 49, 54, 115, 37, 45, 52, 46, 52, 115]⟩ 3).run Ybaf.prog w = .ok [(0, 115, false), (1, 115, false), (2, 115, false)] w := by kernel_rfl
def shape9 : List UInt8 := [12, 6, 0, 0, 0, 0, 0, 0, 0, 115, 116, 114, 105, 110, 103]
theorem op9_115 (name : String) (x : ByteArray) (w : World) : (FmtStop.operand name false 115 false (.iface 9 (.string x))).run Ybaf.prog w = .ok (shape9, FmtStop.pack x.data.toList) w := by kernel_rfl
end Go.Proofs.YbulkazemFmt
