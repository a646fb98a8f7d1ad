/-
  DERIVED. THE CLOSED FACTS FOR A WALK OVER fmt's STOPPED FRONT 'fmt.errorf' IN THIS DUMP (after the guide's CheckFmt.lean, typed by hand).
-/
import Derived.Test.Qxb6630774aFmtProg
import Derived.Stop.CallBack
import Derived.Stop.IfaceNil
import GoSem.ClaimData
namespace Go.Proofs
open Go.Extern.Stop Go.Stop Go.Extern

-- fmt.errorf: function 16: a plain stop
@[go_sem] theorem Tryf.call16 (args : Array Value) (w : World) : (callFunc 16 args).run Tryf.prog w = ((FmtStop.errorf #[9, 45] #[29] args).run Tryf.prog w).andThen fun v w' => .ok (.value v) w' :=
  run_callFunc_extern Tryf.func16 (by kernel_rfl) (by kernel_rfl) (by kernel_rfl) (by kernel_rfl) args w

@[go_sem] theorem Tryf.guard (name : String) (w : World) : (FmtStop.guard name).run Tryf.prog w = .ok () w := by kernel_rfl

def Tryf.shape9 : List UInt8 := [12, 6, 0, 0, 0, 0, 0, 0, 0, 115, 116, 114, 105, 110, 103]
@[go_sem] theorem Tryf.op9_115w (name : String) (x : ByteArray) (w : World) : (FmtStop.operand name true 115 false (.iface 9 (.string x))).run Tryf.prog w = .ok (Tryf.shape9, FmtStop.pack x.data.toList) w := by kernel_rfl
def Tryf.shape3 : List UInt8 := [5, 3, 0, 0, 0, 0, 0, 0, 0, 105, 110, 116]
@[go_sem] theorem Tryf.op3_100w (name : String) (x : Int) (w : World) : (FmtStop.operand name true 100 false (.iface 3 (.int .i64 x))).run Tryf.prog w = .ok (Tryf.shape3, Go.Extern.Stop.digits 8 (x % 2 ^ 64).toNat) w := by kernel_rfl
def Tryf.shape31 : List UInt8 := 6 :: FmtStop.pack "tender.TenorUnit".toUTF8.data.toList
@[go_sem] theorem Tryf.op31_99w (name : String) (x : Int) (w : World) : (FmtStop.operand name true 99 false (.iface 31 (.int .u8 x))).run Tryf.prog w = .ok (Tryf.shape31, Go.Extern.Stop.digits 8 (x % 2 ^ 64).toNat) w := by kernel_rfl

@[go_sem] theorem Tryf.ptr48 (w : World) : (FmtStop.ptrTo "errors.errorString").run Tryf.prog w = .ok 48 w := by kernel_rfl
@[go_sem] theorem Tryf.elem48 (w : World) : (elemOf 48).run Tryf.prog w = .ok 50 w := by kernel_rfl

end Go.Proofs
