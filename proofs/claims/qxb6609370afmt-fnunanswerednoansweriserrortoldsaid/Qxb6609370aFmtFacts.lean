/-
  THE CLOSED FACTS FOR A WALK OVER fmt.errorf's STOP at this dump (after the guide's CheckFmt.lean): each by the kernel's own evaluation. Nothing here is trusted.
-/
import Derived.Test.Qxb6609370aFmtProg
import Derived.Stop.CallBack
import Derived.Stop.IfaceNil
import GoSem.ClaimData
namespace Go.Proofs
open Go.Extern.Stop Go.Stop Go.Extern

@[go_sem] theorem Tryf.call11 (args : Array Value) (w : World) : (callFunc 11 args).run Tryf.prog w = ((FmtStop.errorf #[9, 38] #[31] args).run Tryf.prog w).andThen fun v w' => .ok (.value v) w' :=
  run_callFunc_extern Tryf.func11 (by kernel_rfl) (by kernel_rfl) (by kernel_rfl) (by kernel_rfl) args w

@[go_sem] theorem Tryf.guard (name : String) (w : World) : (FmtStop.guard name).run Tryf.prog w = .ok () w := by kernel_rfl

-- the format, 2 operands
@[go_sem] theorem Tryf.fmt0 : FmtStop.printed? ⟨#[110, 111, 32, 117, 115, 97, 98, 108, 101, 32, 97, 110, 115, 119, 101, 114, 32, 99, 97, 109, 101, 32, 102, 114, 111, 109, 32, 116, 104, 101, 32, 65, 80, 73, 32, 97, 116, 32, 37, 115, 58, 32, 37, 115]⟩ 2 = some [(0, 115, false), (1, 115, false)] := by kernel_rfl
@[go_sem] theorem Tryf.fmt0r (w : World) : (FmtDoors.printed ⟨#[110, 111, 32, 117, 115, 97, 98, 108, 101, 32, 97, 110, 115, 119, 101, 114, 32, 99, 97, 109, 101, 32, 102, 114, 111, 109, 32, 116, 104, 101, 32, 65, 80, 73, 32, 97, 116, 32, 37, 115, 58, 32, 37, 115]⟩ 2).run Tryf.prog w = .ok [(0, 115, false), (1, 115, false)] w := by kernel_rfl

-- type 9: string
def Tryf.shape9 : List UInt8 := [12, 6, 0, 0, 0, 0, 0, 0, 0, 115, 116, 114, 105, 110, 103]
@[go_sem] theorem Tryf.op9_115w (name : String) (x : ByteArray) (w : World) : (FmtStop.operand name true 115 false (.iface 9 (.string x))).run Tryf.prog w = .ok (Tryf.shape9, FmtStop.pack x.data.toList) w := by kernel_rfl
@[go_sem] theorem Tryf.op9_115 (name : String) (x : ByteArray) (w : World) : (FmtStop.operand name false 115 false (.iface 9 (.string x))).run Tryf.prog w = .ok (Tryf.shape9, FmtStop.pack x.data.toList) w := by kernel_rfl

-- the error type that fmt.errorf makes
@[go_sem] theorem Tryf.ptr42 (w : World) : (FmtStop.ptrTo "errors.errorString").run Tryf.prog w = .ok 42 w := by kernel_rfl
@[go_sem] theorem Tryf.elem42 (w : World) : (elemOf 42).run Tryf.prog w = .ok 44 w := by kernel_rfl
@[go_sem] theorem Tryf.isError42 (w : World) : (FmtDoors.textMethod 42 "Error").run Tryf.prog w = .ok true w := by kernel_rfl
@[go_sem] theorem Tryf.ptr40 (w : World) : (FmtStop.ptrTo "fmt.wrapError").run Tryf.prog w = .ok 40 w := by kernel_rfl
@[go_sem] theorem Tryf.elem40 (w : World) : (elemOf 40).run Tryf.prog w = .ok 62 w := by kernel_rfl
@[go_sem] theorem Tryf.isError40 (w : World) : (FmtDoors.textMethod 40 "Error").run Tryf.prog w = .ok true w := by kernel_rfl

end Go.Proofs
