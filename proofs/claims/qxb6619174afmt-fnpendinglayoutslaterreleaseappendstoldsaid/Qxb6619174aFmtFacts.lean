/-
  THE CLOSED FACTS FOR THE WALK OVER fmt's STOPPED FRONT AT THIS PROGRAM's ONE FORMAT (after the kit's worked CheckFmt, at this dump's numbers). Each by the kernel's own evaluation.
-/
import Derived.Test.Qxb6619174aFmtRows
import Derived.Stop.CallBack
import Derived.Stop.IfaceNil
import GoSem.ClaimData
namespace Go.Proofs.Qxb6619174aFmt
open Go.Extern.Stop Go.Stop Go.Extern

-- fmt.errorf: function 10: a plain stop
theorem Tryf.call10 (args : Array Value) (w : World) : (callFunc 10 args).run Tryf.prog w = ((FmtStop.errorf #[9, 31] #[25] args).run Tryf.prog w).andThen fun v w' => .ok (.value v) w' :=
  run_callFunc_extern Tryf.func10 (by kernel_rfl) (by kernel_rfl) (by kernel_rfl) (by kernel_rfl) args w
theorem Tryf.guard (name : String) (w : World) : (FmtStop.guard name).run Tryf.prog w = .ok () w := by kernel_rfl
theorem Tryf.fmt0 : FmtStop.printed? ⟨#[116, 104, 101, 32, 100, 97, 116, 97, 98, 97, 115, 101, 32, 104, 97, 115, 32, 108, 97, 121, 111, 117, 116, 32, 37, 100, 59, 32, 116, 104, 105, 115, 32, 111, 110, 99, 101, 119, 97, 114, 100, 32, 114, 101, 97, 100, 115, 32, 108, 97, 121, 111, 117, 116, 32, 37, 100]⟩ 2 = some [(0, 100, false), (1, 100, false)] := by kernel_rfl
theorem Tryf.fmt0r (w : World) : (FmtDoors.printed ⟨#[116, 104, 101, 32, 100, 97, 116, 97, 98, 97, 115, 101, 32, 104, 97, 115, 32, 108, 97, 121, 111, 117, 116, 32, 37, 100, 59, 32, 116, 104, 105, 115, 32, 111, 110, 99, 101, 119, 97, 114, 100, 32, 114, 101, 97, 100, 115, 32, 108, 97, 121, 111, 117, 116, 32, 37, 100]⟩ 2).run Tryf.prog w = .ok [(0, 100, false), (1, 100, false)] w := by kernel_rfl
theorem Tryf.name3 : Tryf.prog.typeName? 3 3 = some "int" := by kernel_rfl
def Tryf.shape3 : List UInt8 := [5, 3, 0, 0, 0, 0, 0, 0, 0, 105, 110, 116]
theorem Tryf.op3_100 (name : String) (x : Int) (w : World) : (FmtStop.operand name false 100 false (.iface 3 (.int .i64 x))).run Tryf.prog w = .ok (Tryf.shape3, Go.Extern.Stop.digits 8 (x % 2 ^ 64).toNat) w := by kernel_rfl
theorem Tryf.op3_100w (name : String) (x : Int) (w : World) : (FmtStop.operand name true 100 false (.iface 3 (.int .i64 x))).run Tryf.prog w = .ok (Tryf.shape3, Go.Extern.Stop.digits 8 (x % 2 ^ 64).toNat) w := by kernel_rfl
theorem Tryf.ptr34 (w : World) : (FmtStop.ptrTo "errors.errorString").run Tryf.prog w = .ok 34 w := by kernel_rfl
theorem Tryf.elem34 (w : World) : (elemOf 34).run Tryf.prog w = .ok 36 w := by kernel_rfl

end Go.Proofs.Qxb6619174aFmt
