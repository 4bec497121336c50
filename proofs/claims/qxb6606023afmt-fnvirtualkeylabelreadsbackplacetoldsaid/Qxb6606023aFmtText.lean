import Derived.Test.Qxb6606023aFmtProg
import Derived.Stop.CallBack
import Derived.Stop.IfaceNil
import GoSem.ClaimData
namespace Go.Proofs.Qxb6606023aFmt.Facts
open Go.Extern.Stop Go.Stop Go.Extern

theorem call7 (args : Array Value) (w : World) : (callFunc 7 args).run Tryf.prog w = ((FmtStop.sprintf #[9, 44] #[9] args).run Tryf.prog w).andThen fun v w' => .ok (.value v) w' :=
  run_callFunc_extern Tryf.func7 (by kernel_rfl) (by kernel_rfl) (by kernel_rfl) (by kernel_rfl) args w
theorem guard (name : String) (w : World) : (FmtStop.guard name).run Tryf.prog w = .ok () w := by kernel_rfl
theorem fmt2 : FmtStop.printed? ⟨#[118, 105, 114, 116, 117, 97, 108, 32, 107, 101, 121, 32, 37, 100]⟩ 1 = some [(0, 100, false)] := by kernel_rfl
theorem fmt2r (w : World) : (FmtDoors.printed ⟨#[118, 105, 114, 116, 117, 97, 108, 32, 107, 101, 121, 32, 37, 100]⟩ 1).run Tryf.prog w = .ok [(0, 100, false)] w := by kernel_rfl
def shape3 : List UInt8 := [5, 3, 0, 0, 0, 0, 0, 0, 0, 105, 110, 116]
theorem op3_100 (name : String) (x : Int) (w : World) : (FmtStop.operand name false 100 false (.iface 3 (.int .i64 x))).run Tryf.prog w = .ok (shape3, Go.Extern.Stop.digits 8 (x % 2 ^ 64).toNat) w := by kernel_rfl
theorem strict3 (name : String) (x : Int) (w : World) : (FmtStop.strict name (.iface 3 (.int .i64 x))).run Tryf.prog w = .ok (shape3, Go.Extern.Stop.digits 8 (x % 2 ^ 64).toNat) w := by kernel_rfl

end Go.Proofs.Qxb6606023aFmt.Facts
