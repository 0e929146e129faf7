/-
  The closed facts for a walk over fmt's stopped front in this dump (after the kit's CheckFmt.lean): function 10 is fmt.errorf, a plain stop; type 9 string, 25 error, 30 []interface{}, 33 *errors.errorString, 35 errors.errorString.
-/
import Derived.Test.Qxb6617057aFmtProg
import Derived.Stop.CallBack
import Derived.Stop.IfaceNil
import GoSem.ClaimData
namespace Go.Proofs.Qxb6617057aFmt
open Go.Extern.Stop Go.Stop Go.Extern

theorem call10 (args : Array Value) (w : World) : (callFunc 10 args).run Tryf.prog w = ((FmtStop.errorf #[9, 30] #[25] args).run Tryf.prog w).andThen fun v w' => .ok (.value v) w' :=
  run_callFunc_extern Tryf.func10 (by kernel_rfl) (by kernel_rfl) (by kernel_rfl) (by kernel_rfl) args w

theorem guard (name : String) (w : World) : (FmtStop.guard name).run Tryf.prog w = .ok () w := by kernel_rfl

-- 'stream must be upstream or downstream, not %q', one operand
theorem fmt0 : FmtStop.printed? ⟨#[115, 116, 114, 101, 97, 109, 32, 109, 117, 115, 116, 32, 98, 101, 32, 117, 112, 115, 116, 114, 101, 97, 109, 32, 111, 114, 32, 100, 111, 119, 110, 115, 116, 114, 101, 97, 109, 44, 32, 110, 111, 116, 32, 37, 113]⟩ 1 = some [(0, 113, false)] := by kernel_rfl
theorem fmt0r (w : World) : (FmtDoors.printed ⟨#[115, 116, 114, 101, 97, 109, 32, 109, 117, 115, 116, 32, 98, 101, 32, 117, 112, 115, 116, 114, 101, 97, 109, 32, 111, 114, 32, 100, 111, 119, 110, 115, 116, 114, 101, 97, 109, 44, 32, 110, 111, 116, 32, 37, 113]⟩ 1).run Tryf.prog w = .ok [(0, 113, false)] w := by kernel_rfl

-- what the operand reads as
def shape9 : List UInt8 := [12, 6, 0, 0, 0, 0, 0, 0, 0, 115, 116, 114, 105, 110, 103]
theorem op9_118 (name : String) (x : ByteArray) (w : World) : (FmtStop.operand name false 118 false (.iface 9 (.string x))).run Tryf.prog w = .ok (shape9, FmtStop.pack x.data.toList) w := by kernel_rfl
theorem op9_113 (name : String) (x : ByteArray) (w : World) : (FmtStop.operand name false 113 false (.iface 9 (.string x))).run Tryf.prog w = .ok (shape9, FmtStop.pack x.data.toList) w := by kernel_rfl
theorem op9_118w (name : String) (x : ByteArray) (w : World) : (FmtStop.operand name true 118 false (.iface 9 (.string x))).run Tryf.prog w = .ok (shape9, FmtStop.pack x.data.toList) w := by kernel_rfl
theorem op9_113w (name : String) (x : ByteArray) (w : World) : (FmtStop.operand name true 113 false (.iface 9 (.string x))).run Tryf.prog w = .ok (shape9, FmtStop.pack x.data.toList) w := by kernel_rfl
theorem strict9 (name : String) (x : ByteArray) (w : World) : (FmtStop.strict name (.iface 9 (.string x))).run Tryf.prog w = .ok (shape9, FmtStop.pack x.data.toList) w := by kernel_rfl

-- the error type that fmt.errorf makes
theorem ptr33 (w : World) : (FmtStop.ptrTo "errors.errorString").run Tryf.prog w = .ok 33 w := by kernel_rfl
theorem elem33 (w : World) : (elemOf 33).run Tryf.prog w = .ok 35 w := by kernel_rfl
theorem isError33 (w : World) : (FmtDoors.textMethod 33 "Error").run Tryf.prog w = .ok true w := by kernel_rfl
end Go.Proofs.Qxb6617057aFmt
