/-
  The closed facts that a walk over the stopped front 'fmt.errorf' wants in this program (after the guide's worked CheckFmt): the format with one operand of type 5 under the verb 113.
-/
import Derived.Test.Qxb6604770aFmtProg
import Derived.Stop.CallBack
import Derived.Stop.IfaceNil
import GoSem.ClaimData
namespace Go.Proofs.Qxb6604770aFmt
open Go.Extern.Stop Go.Stop Go.Extern

theorem call13 (args : Array Value) (w : World) : (callFunc 13 args).run Tryf.prog w = ((FmtStop.errorf #[9, 33] #[25] args).run Tryf.prog w).andThen fun v w' => .ok (.value v) w' :=
  run_callFunc_extern Tryf.func13 (by kernel_rfl) (by kernel_rfl) (by kernel_rfl) (by kernel_rfl) args w
theorem guardF (name : String) (w : World) : (FmtStop.guard name).run Tryf.prog w = .ok () w := by kernel_rfl
theorem fmt0 : FmtStop.printed? ⟨#[119, 97, 110, 116, 32, 108, 111, 119, 101, 114, 45, 99, 97, 115, 101, 32, 104, 101, 120, 44, 32, 103, 111, 116, 32, 37, 113]⟩ 1 = some [(0, 113, false)] := by kernel_rfl
theorem fmt0r (w : World) : (FmtDoors.printed ⟨#[119, 97, 110, 116, 32, 108, 111, 119, 101, 114, 45, 99, 97, 115, 101, 32, 104, 101, 120, 44, 32, 103, 111, 116, 32, 37, 113]⟩ 1).run Tryf.prog w = .ok [(0, 113, false)] w := by kernel_rfl
def shape5 : List UInt8 := [6, 5, 0, 0, 0, 0, 0, 0, 0, 117, 105, 110, 116, 56]
theorem op5_113 (name : String) (x : Int) (w : World) : (FmtStop.operand name false 113 false (.iface 5 (.int .u8 x))).run Tryf.prog w = .ok (shape5, digits 8 (x % 2 ^ 64).toNat) w := by kernel_rfl
theorem op5_113w (name : String) (x : Int) (w : World) : (FmtStop.operand name true 113 false (.iface 5 (.int .u8 x))).run Tryf.prog w = .ok (shape5, digits 8 (x % 2 ^ 64).toNat) w := by kernel_rfl
theorem ptr39 (w : World) : (FmtStop.ptrTo "errors.errorString").run Tryf.prog w = .ok 39 w := by kernel_rfl
theorem elem39 (w : World) : (elemOf 39).run Tryf.prog w = .ok 41 w := by kernel_rfl
theorem isError39 (w : World) : (FmtDoors.textMethod 39 "Error").run Tryf.prog w = .ok true w := by kernel_rfl
end Go.Proofs.Qxb6604770aFmt
