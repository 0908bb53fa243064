/-
  THE CLOSED FACTS FOR A WALK OVER fmt's STOPPED FRONT, at this dump's numbers.
-/
import Derived.Test.YbulkdeqeFmtCards
import Derived.WalkKit
import Derived.WalkSpells
import Derived.Stop.CallBack
import Derived.Stop.IfaceNil
import GoSem.ClaimData
namespace Go.Proofs.YbulkdeqeFmt
open Go.Extern.Stop Go.Stop Go.Extern

theorem call6 (args : Array Value) (w : World) : (callFunc 6 args).run Ybaf.prog w = ((FmtStop.errorf #[9, 30] #[25] args).run Ybaf.prog w).andThen fun v w' => .ok (.value v) w' :=
  run_callFunc_extern Ybaf.func6 (by kernel_rfl) (by kernel_rfl) (by kernel_rfl) (by kernel_rfl) args w
theorem guardF (name : String) (w : World) : (FmtStop.guard name).run Ybaf.prog w = .ok () w := by kernel_rfl
theorem fmt0 : FmtStop.printed? ⟨#[114, 101, 115, 101, 114, 118, 101, 100, 32, 118, 97, 108, 117, 101, 32, 37, 100]⟩ 1 = some [(0, 100, false)] := by kernel_rfl
theorem fmt0r (w : World) : (FmtDoors.printed ⟨#[114, 101, 115, 101, 114, 118, 101, 100, 32, 118, 97, 108, 117, 101, 32, 37, 100]⟩ 1).run Ybaf.prog w = .ok [(0, 100, false)] w := by kernel_rfl
def shape5 : List UInt8 := [6, 5, 0, 0, 0, 0, 0, 0, 0, 117, 105, 110, 116, 56]
theorem op5_100w (name : String) (x : Int) (w : World) : (FmtStop.operand name true 100 false (.iface 5 (.int .u8 x))).run Ybaf.prog w = .ok (shape5, Go.Extern.Stop.digits 8 (x % 2 ^ 64).toNat) w := by kernel_rfl
theorem op5_100 (name : String) (x : Int) (w : World) : (FmtStop.operand name false 100 false (.iface 5 (.int .u8 x))).run Ybaf.prog w = .ok (shape5, Go.Extern.Stop.digits 8 (x % 2 ^ 64).toNat) w := by kernel_rfl
theorem ptr33 (w : World) : (FmtStop.ptrTo "errors.errorString").run Ybaf.prog w = .ok 33 w := by kernel_rfl
theorem elem33 (w : World) : (elemOf 33).run Ybaf.prog w = .ok 35 w := by kernel_rfl
theorem isError33 (w : World) : (FmtDoors.textMethod 33 "Error").run Ybaf.prog w = .ok true w := by kernel_rfl
theorem ptr32 (w : World) : (FmtStop.ptrTo "fmt.wrapError").run Ybaf.prog w = .ok 32 w := by kernel_rfl
theorem elem32 (w : World) : (elemOf 32).run Ybaf.prog w = .ok 53 w := by kernel_rfl
theorem isError32 (w : World) : (FmtDoors.textMethod 32 "Error").run Ybaf.prog w = .ok true w := by kernel_rfl

end Go.Proofs.YbulkdeqeFmt
