/-
  The closed facts for a walk over fmt's stopped front at the one format of this road. Each by the kernel's own evaluation.
-/
import Derived.Test.Qxb6616338aFmtProg
import Derived.Stop.CallBack
import Derived.Stop.IfaceNil
import GoSem.ClaimData
namespace Go.Proofs.Qxb6616338aFmt
open Go.Extern.Stop Go.Stop Go.Extern

theorem fcall (args : Array Value) (w : World) : (callFunc 21 args).run Tryf.prog w = ((FmtStop.errorf #[9, 53] #[35] args).run Tryf.prog w).andThen fun v w' => .ok (.value v) w' :=
  run_callFunc_extern Tryf.func21 (by kernel_rfl) (by kernel_rfl) (by kernel_rfl) (by kernel_rfl) args w
theorem fguard (name : String) (w : World) : (FmtStop.guard name).run Tryf.prog w = .ok () w := by kernel_rfl
theorem ffmt : FmtStop.printed? ⟨#[37, 113, 32, 105, 115, 32, 110, 111, 116, 32, 97, 32, 110, 117, 109, 98, 101, 114, 32, 111, 102, 32, 37, 115, 44, 32, 49, 32, 111, 114, 32, 109, 111, 114, 101]⟩ 2 = some [(0, 113, false), (1, 115, false)] := by kernel_rfl
theorem ffmtr (w : World) : (FmtDoors.printed ⟨#[37, 113, 32, 105, 115, 32, 110, 111, 116, 32, 97, 32, 110, 117, 109, 98, 101, 114, 32, 111, 102, 32, 37, 115, 44, 32, 49, 32, 111, 114, 32, 109, 111, 114, 101]⟩ 2).run Tryf.prog w = .ok [(0, 113, false), (1, 115, false)] w := by kernel_rfl
def fshape : List UInt8 := [12, 6, 0, 0, 0, 0, 0, 0, 0, 115, 116, 114, 105, 110, 103]
theorem fop_q (name : String) (b : Bool) (x : ByteArray) (w : World) : (FmtStop.operand name b 113 false (.iface 9 (.string x))).run Tryf.prog w = .ok (fshape, FmtStop.pack x.data.toList) w := by cases b <;> kernel_rfl
theorem fop_s (name : String) (b : Bool) (x : ByteArray) (w : World) : (FmtStop.operand name b 115 false (.iface 9 (.string x))).run Tryf.prog w = .ok (fshape, FmtStop.pack x.data.toList) w := by cases b <;> kernel_rfl
theorem fptr (w : World) : (FmtStop.ptrTo "errors.errorString").run Tryf.prog w = .ok 62 w := by kernel_rfl
theorem felem (w : World) : (elemOf 62).run Tryf.prog w = .ok 64 w := by kernel_rfl
end Go.Proofs.Qxb6616338aFmt
