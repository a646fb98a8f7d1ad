/-
  DERIVED. THE CLOSED FACTS FOR A WALK OVER fmt's STOPPED FRONT 'fmt.errorf' IN THIS DUMP (after the guide's CheckFmt.lean, typed by hand: no tool for it lies here).
-/
import Derived.Test.Qxb6630733aFmtProg
import Derived.Stop.CallBack
import Derived.Stop.IfaceNil
import GoSem.ClaimData
namespace Go.Proofs
open Go.Extern.Stop Go.Stop Go.Extern

-- fmt.errorf: function 10: a plain stop
@[go_sem] theorem Tryf.call10 (args : Array Value) (w : World) : (callFunc 10 args).run Tryf.prog w = ((FmtStop.errorf #[9, 30] #[24] args).run Tryf.prog w).andThen fun v w' => .ok (.value v) w' :=
  run_callFunc_extern Tryf.func10 (by kernel_rfl) (by kernel_rfl) (by kernel_rfl) (by kernel_rfl) args w

@[go_sem] theorem Tryf.guard (name : String) (w : World) : (FmtStop.guard name).run Tryf.prog w = .ok () w := by kernel_rfl

-- "%q is not a word of ASCII letters, digits, _ and -", 1 operand
@[go_sem] theorem Tryf.fmt0r (w : World) : (FmtDoors.printed ⟨#[37, 113, 32, 105, 115, 32, 110, 111, 116, 32, 97, 32, 119, 111, 114, 100, 32, 111, 102, 32, 65, 83, 67, 73, 73, 32, 108, 101, 116, 116, 101, 114, 115, 44, 32, 100, 105, 103, 105, 116, 115, 44, 32, 95, 32, 97, 110, 100, 32, 45]⟩ 1).run Tryf.prog w = .ok [(0, 113, false)] w := by kernel_rfl

def Tryf.shape9 : List UInt8 := [12, 6, 0, 0, 0, 0, 0, 0, 0, 115, 116, 114, 105, 110, 103]
@[go_sem] theorem Tryf.op9_113w (name : String) (x : ByteArray) (w : World) : (FmtStop.operand name true 113 false (.iface 9 (.string x))).run Tryf.prog w = .ok (Tryf.shape9, FmtStop.pack x.data.toList) w := by kernel_rfl

@[go_sem] theorem Tryf.ptr32 (w : World) : (FmtStop.ptrTo "errors.errorString").run Tryf.prog w = .ok 32 w := by kernel_rfl
@[go_sem] theorem Tryf.elem32 (w : World) : (elemOf 32).run Tryf.prog w = .ok 34 w := by kernel_rfl

end Go.Proofs
