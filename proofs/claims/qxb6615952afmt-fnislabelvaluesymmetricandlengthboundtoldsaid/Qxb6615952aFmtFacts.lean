/-
  THE CLOSED FACTS FOR A WALK OVER fmt.Sprintf's STOP (in the kit's own make, typed for this dump): each by the kernel's evaluation.
-/
import Derived.Test.Qxb6615952aFmtProg
import Derived.Stop.CallBack
import Derived.Stop.IfaceNil
import GoSem.ClaimData
namespace Go.Proofs
open Go.Extern.Stop Go.Stop Go.Extern

@[go_sem] theorem Tryf.call13 (args : Array Value) (w : World) : (callFunc 13 args).run Tryf.prog w = ((FmtStop.sprintf #[9, 44] #[9] args).run Tryf.prog w).andThen fun v w' => .ok (.value v) w' :=
  run_callFunc_extern Tryf.func13 (by kernel_rfl) (by kernel_rfl) (by kernel_rfl) (by kernel_rfl) args w

@[go_sem] theorem Tryf.guard (name : String) (w : World) : (FmtStop.guard name).run Tryf.prog w = .ok () w := by kernel_rfl

/-- The format's bytes. -/
def Tryf.fmtBytes : List UInt8 := [105, 115, 32, 110, 111, 116, 32, 97, 32, 108, 97, 98, 101, 108, 32, 118, 97, 108, 117, 101, 58, 32, 101, 109, 112, 116, 121, 44, 32, 111, 114, 32, 97, 116, 32, 109, 111, 115, 116, 32, 37, 100, 32, 99, 104, 97, 114, 97, 99, 116, 101, 114, 115, 32, 111, 102, 32, 108, 101, 116, 116, 101, 114, 115, 44, 32, 100, 105, 103, 105, 116, 115, 44, 32, 39, 45, 39, 44, 32, 39, 95, 39, 32, 97, 110, 100, 32, 39, 46, 39, 44, 32, 98, 101, 103, 105, 110, 110, 105, 110, 103, 32, 97, 110, 100, 32, 101, 110, 100, 105, 110, 103, 32, 119, 105, 116, 104, 32, 97, 32, 108, 101, 116, 116, 101, 114, 32, 111, 114, 32, 100, 105, 103, 105, 116]

set_option maxRecDepth 100000 in
@[go_sem] theorem Tryf.fmt0 : FmtStop.printed? ⟨#[105, 115, 32, 110, 111, 116, 32, 97, 32, 108, 97, 98, 101, 108, 32, 118, 97, 108, 117, 101, 58, 32, 101, 109, 112, 116, 121, 44, 32, 111, 114, 32, 97, 116, 32, 109, 111, 115, 116, 32, 37, 100, 32, 99, 104, 97, 114, 97, 99, 116, 101, 114, 115, 32, 111, 102, 32, 108, 101, 116, 116, 101, 114, 115, 44, 32, 100, 105, 103, 105, 116, 115, 44, 32, 39, 45, 39, 44, 32, 39, 95, 39, 32, 97, 110, 100, 32, 39, 46, 39, 44, 32, 98, 101, 103, 105, 110, 110, 105, 110, 103, 32, 97, 110, 100, 32, 101, 110, 100, 105, 110, 103, 32, 119, 105, 116, 104, 32, 97, 32, 108, 101, 116, 116, 101, 114, 32, 111, 114, 32, 100, 105, 103, 105, 116]⟩ 1 = some [(0, 100, false)] := by kernel_rfl
set_option maxRecDepth 100000 in
@[go_sem] theorem Tryf.fmt0r (w : World) : (FmtDoors.printed ⟨#[105, 115, 32, 110, 111, 116, 32, 97, 32, 108, 97, 98, 101, 108, 32, 118, 97, 108, 117, 101, 58, 32, 101, 109, 112, 116, 121, 44, 32, 111, 114, 32, 97, 116, 32, 109, 111, 115, 116, 32, 37, 100, 32, 99, 104, 97, 114, 97, 99, 116, 101, 114, 115, 32, 111, 102, 32, 108, 101, 116, 116, 101, 114, 115, 44, 32, 100, 105, 103, 105, 116, 115, 44, 32, 39, 45, 39, 44, 32, 39, 95, 39, 32, 97, 110, 100, 32, 39, 46, 39, 44, 32, 98, 101, 103, 105, 110, 110, 105, 110, 103, 32, 97, 110, 100, 32, 101, 110, 100, 105, 110, 103, 32, 119, 105, 116, 104, 32, 97, 32, 108, 101, 116, 116, 101, 114, 32, 111, 114, 32, 100, 105, 103, 105, 116]⟩ 1).run Tryf.prog w = .ok [(0, 100, false)] w := by kernel_rfl

def Tryf.shape3 : List UInt8 := [5, 3, 0, 0, 0, 0, 0, 0, 0, 105, 110, 116]
@[go_sem] theorem Tryf.op3_100 (name : String) (x : Int) (w : World) : (FmtStop.operand name false 100 false (.iface 3 (.int .i64 x))).run Tryf.prog w = .ok (Tryf.shape3, Go.Extern.Stop.digits 8 (x % 2 ^ 64).toNat) w := by kernel_rfl

end Go.Proofs
