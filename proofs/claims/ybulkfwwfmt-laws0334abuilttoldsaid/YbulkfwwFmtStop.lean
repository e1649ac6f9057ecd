/-
  The closed facts for the walk over fmt's stopped function, at this translation's numbers (typed after the guide's generated CheckFmt.lean; the tool that prints such a text does not lie here). Each is proved by the kernel's own evaluation.
-/
import Derived.Test.YbulkfwwFmtProg
import Derived.Stop.CallBack
import Derived.Stop.IfaceNil
import GoSem.ClaimData
import Derived.KernelRfl
namespace Go.Proofs
open Go.Extern.Stop Go.Stop Go.Extern

theorem Ybaf.call9 (args : Array Value) (w : World) : (callFunc 9 args).run Ybaf.prog w = ((FmtStop.errorf #[9, 30] #[23] args).run Ybaf.prog w).andThen fun v w' => .ok (.value v) w' :=
  run_callFunc_extern Ybaf.func9 (by kernel_rfl) (by kernel_rfl) (by kernel_rfl) (by kernel_rfl) args w
theorem Ybaf.guard (name : String) (w : World) : (FmtStop.guard name).run Ybaf.prog w = .ok () w := by kernel_rfl

theorem Ybaf.fmt0 : FmtStop.printed? ⟨#[110, 111, 100, 101, 32, 105, 100, 32, 37, 113, 58, 32, 111, 110, 108, 121, 32, 97, 45, 122, 44, 32, 48, 45, 57, 32, 97, 110, 100, 32, 45, 32, 97, 114, 101, 32, 97, 108, 108, 111, 119, 101, 100]⟩ 1 = some [(0, 113, false)] := by kernel_rfl
theorem Ybaf.fmt0r (w : World) : (FmtDoors.printed ⟨#[110, 111, 100, 101, 32, 105, 100, 32, 37, 113, 58, 32, 111, 110, 108, 121, 32, 97, 45, 122, 44, 32, 48, 45, 57, 32, 97, 110, 100, 32, 45, 32, 97, 114, 101, 32, 97, 108, 108, 111, 119, 101, 100]⟩ 1).run Ybaf.prog w = .ok [(0, 113, false)] w := by kernel_rfl
theorem Ybaf.fmt1 : FmtStop.printed? ⟨#[110, 111, 100, 101, 32, 105, 100, 32, 37, 113, 58, 32, 109, 117, 115, 116, 32, 98, 101, 32, 49, 32, 116, 111, 32, 37, 100, 32, 99, 104, 97, 114, 97, 99, 116, 101, 114, 115, 32, 108, 111, 110, 103]⟩ 2 = some [(0, 113, false), (1, 100, false)] := by kernel_rfl
theorem Ybaf.fmt1r (w : World) : (FmtDoors.printed ⟨#[110, 111, 100, 101, 32, 105, 100, 32, 37, 113, 58, 32, 109, 117, 115, 116, 32, 98, 101, 32, 49, 32, 116, 111, 32, 37, 100, 32, 99, 104, 97, 114, 97, 99, 116, 101, 114, 115, 32, 108, 111, 110, 103]⟩ 2).run Ybaf.prog w = .ok [(0, 113, false), (1, 100, false)] w := by kernel_rfl

def Ybaf.shape9 : List UInt8 := [12, 6, 0, 0, 0, 0, 0, 0, 0, 115, 116, 114, 105, 110, 103]
theorem Ybaf.op9_113 (name : String) (b : Bool) (x : ByteArray) (w : World) : (FmtStop.operand name b 113 false (.iface 9 (.string x))).run Ybaf.prog w = .ok (Ybaf.shape9, FmtStop.pack x.data.toList) w := by cases b <;> kernel_rfl
def Ybaf.shape3 : List UInt8 := [5, 3, 0, 0, 0, 0, 0, 0, 0, 105, 110, 116]
theorem Ybaf.op3_100 (name : String) (b : Bool) (x : Int) (w : World) : (FmtStop.operand name b 100 false (.iface 3 (.int .i64 x))).run Ybaf.prog w = .ok (Ybaf.shape3, Go.Extern.Stop.digits 8 (x % 2 ^ 64).toNat) w := by cases b <;> kernel_rfl

theorem Ybaf.ptr32 (w : World) : (FmtStop.ptrTo "errors.errorString").run Ybaf.prog w = .ok 32 w := by kernel_rfl
theorem Ybaf.elem32 (w : World) : (elemOf 32).run Ybaf.prog w = .ok 34 w := by kernel_rfl
end Go.Proofs
