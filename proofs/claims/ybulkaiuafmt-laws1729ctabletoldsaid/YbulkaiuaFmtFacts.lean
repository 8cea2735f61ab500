/-
  THE CLOSED FACTS FOR A WALK OVER fmt.errorf's STOP IN THIS DUMP (after the kit's own family of such facts, turned to this program by hand): each by the kernel's own evaluation.
-/
import Derived.Test.YbulkaiuaFmtChecked
import Derived.Stop.CallBack
import Derived.Stop.IfaceNil
import GoSem.ClaimData
namespace Go.Proofs.YbulkaiuaFmt.Facts
open Go.Extern.Stop Go.Stop Go.Extern
theorem call7 (args : Array Value) (w : World) : (callFunc 7 args).run Ybaf.prog w = ((FmtStop.errorf #[9, 31] #[23] args).run Ybaf.prog w).andThen fun v w' => .ok (.value v) w' :=
  run_callFunc_extern Ybaf.func7 (by kernel_rfl) (by kernel_rfl) (by kernel_rfl) (by kernel_rfl) args w
theorem guard (name : String) (w : World) : (FmtStop.guard name).run Ybaf.prog w = .ok () w := by kernel_rfl
theorem fmt0 : FmtStop.printed? ⟨#[117, 110, 107, 110, 111, 119, 110, 32, 97, 99, 99, 101, 115, 115, 32, 37, 100]⟩ 1 = some [(0, 100, false)] := by kernel_rfl
theorem fmt0r (w : World) : (FmtDoors.printed ⟨#[117, 110, 107, 110, 111, 119, 110, 32, 97, 99, 99, 101, 115, 115, 32, 37, 100]⟩ 1).run Ybaf.prog w = .ok [(0, 100, false)] w := by kernel_rfl
def shape26 : List UInt8 := FmtStop.intCode .u8 :: FmtStop.pack "stratumseal.Access".toUTF8.data.toList
theorem op26 (name : String) (x : Int) (w : World) : (FmtStop.operand name false 100 false (.iface 26 (.int .u8 x))).run Ybaf.prog w = .ok (shape26, Go.Extern.Stop.digits 8 (x % 2 ^ 64).toNat) w := by kernel_rfl
theorem op26w (name : String) (x : Int) (w : World) : (FmtStop.operand name true 100 false (.iface 26 (.int .u8 x))).run Ybaf.prog w = .ok (shape26, Go.Extern.Stop.digits 8 (x % 2 ^ 64).toNat) w := by kernel_rfl
theorem ptr34 (w : World) : (FmtStop.ptrTo "errors.errorString").run Ybaf.prog w = .ok 34 w := by kernel_rfl
theorem elem34 (w : World) : (elemOf 34).run Ybaf.prog w = .ok 36 w := by kernel_rfl
end Go.Proofs.YbulkaiuaFmt.Facts
