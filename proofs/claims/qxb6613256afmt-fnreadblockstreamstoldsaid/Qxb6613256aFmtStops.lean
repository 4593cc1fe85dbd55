/-
  The closed facts for a walk over fmt's stopped fronts in this program: what fmt.Sprintf and fmt.errorf answer at the operand types that the road meets (int, uint8, string).
-/
import Derived.Test.Qxb6613256aFmtProg
import Derived.Stop.CallBack
import Derived.Stop.IfaceNil
import GoSem.ClaimData
import Derived.KernelRfl
namespace Go.Proofs
open Go.Extern.Stop Go.Stop Go.Extern

theorem Tryf.call43 (args : Array Value) (w : World) : (callFunc 43 args).run Tryf.prog w = ((FmtStop.sprintf #[9, 79] #[9] args).run Tryf.prog w).andThen fun v w' => .ok (.value v) w' :=
  run_callFunc_extern Tryf.func43 (by kernel_rfl) (by kernel_rfl) (by kernel_rfl) (by kernel_rfl) args w
@[go_sem] theorem Tryf.call48 (args : Array Value) (w : World) : (callFunc 48 args).run Tryf.prog w = ((FmtStop.errorf #[9, 79] #[40] args).run Tryf.prog w).andThen fun v w' => .ok (.value v) w' :=
  run_callFunc_extern Tryf.func48 (by kernel_rfl) (by kernel_rfl) (by kernel_rfl) (by kernel_rfl) args w
@[go_sem] theorem Tryf.guard (name : String) (w : World) : (FmtStop.guard name).run Tryf.prog w = .ok () w := by kernel_rfl

-- the formats of Errorf
@[go_sem] theorem Tryf.fmtNext (w : World) : (FmtDoors.printed ⟨#[98, 121, 116, 101, 32, 111, 102, 102, 115, 101, 116, 32, 37, 100, 58, 32, 37, 115, 32, 110, 101, 101, 100, 115, 32, 37, 100, 32, 98, 121, 116, 101, 115, 44, 32, 97, 110, 100, 32, 37, 100, 32, 102, 111, 108, 108, 111, 119]⟩ 4).run Tryf.prog w = .ok [(0, 100, false), (1, 115, false), (2, 100, false), (3, 100, false)] w := by kernel_rfl
@[go_sem] theorem Tryf.fmtFail (w : World) : (FmtDoors.printed ⟨#[98, 121, 116, 101, 32, 111, 102, 102, 115, 101, 116, 32, 37, 100, 58, 32, 37, 115]⟩ 2).run Tryf.prog w = .ok [(0, 100, false), (1, 115, false)] w := by kernel_rfl

def Tryf.shape9 : List UInt8 := [12, 6, 0, 0, 0, 0, 0, 0, 0, 115, 116, 114, 105, 110, 103]
def Tryf.shape3 : List UInt8 := [5, 3, 0, 0, 0, 0, 0, 0, 0, 105, 110, 116]
def Tryf.shape5 : List UInt8 := [6, 5, 0, 0, 0, 0, 0, 0, 0, 117, 105, 110, 116, 56]
@[go_sem] theorem Tryf.op9_115w (name : String) (x : ByteArray) (w : World) : (FmtStop.operand name true 115 false (.iface 9 (.string x))).run Tryf.prog w = .ok (Tryf.shape9, FmtStop.pack x.data.toList) w := by kernel_rfl
@[go_sem] theorem Tryf.op3_100w (name : String) (x : Int) (w : World) : (FmtStop.operand name true 100 false (.iface 3 (.int .i64 x))).run Tryf.prog w = .ok (Tryf.shape3, Go.Extern.Stop.digits 8 (x % 2 ^ 64).toNat) w := by kernel_rfl
@[go_sem] theorem Tryf.op9_115 (name : String) (x : ByteArray) (w : World) : (FmtStop.operand name false 115 false (.iface 9 (.string x))).run Tryf.prog w = .ok (Tryf.shape9, FmtStop.pack x.data.toList) w := by kernel_rfl
@[go_sem] theorem Tryf.op3_100 (name : String) (x : Int) (w : World) : (FmtStop.operand name false 100 false (.iface 3 (.int .i64 x))).run Tryf.prog w = .ok (Tryf.shape3, Go.Extern.Stop.digits 8 (x % 2 ^ 64).toNat) w := by kernel_rfl
@[go_sem] theorem Tryf.op3_120 (name : String) (x : Int) (w : World) : (FmtStop.operand name false 120 false (.iface 3 (.int .i64 x))).run Tryf.prog w = .ok (Tryf.shape3, Go.Extern.Stop.digits 8 (x % 2 ^ 64).toNat) w := by kernel_rfl
@[go_sem] theorem Tryf.op5_120 (name : String) (x : Int) (w : World) : (FmtStop.operand name false 120 false (.iface 5 (.int .u8 x))).run Tryf.prog w = .ok (Tryf.shape5, Go.Extern.Stop.digits 8 (x % 2 ^ 64).toNat) w := by kernel_rfl

@[go_sem] theorem Tryf.ptr82 (w : World) : (FmtStop.ptrTo "errors.errorString").run Tryf.prog w = .ok 82 w := by kernel_rfl
@[go_sem] theorem Tryf.elem82 (w : World) : (elemOf 82).run Tryf.prog w = .ok 84 w := by kernel_rfl

end Go.Proofs
