/-
  THE CLOSED FACTS over fmt.Sprintf("Verdict(%d)", n), after LabelFmt.lean.
-/
import Derived.Test.Qxb6604569aFmtRows
import Derived.Stop.CallBack
import Derived.Stop.IfaceNil
import GoSem.ClaimData
namespace Go.Proofs.Qxb6604569aFmt
open Go.Extern.Stop Go.Stop Go.Extern

theorem Tryf.call15 (args : Array Value) (w : World) : (callFunc 15 args).run Tryf.prog w = ((FmtStop.sprintf #[9, 58] #[9] args).run Tryf.prog w).andThen fun v w' => .ok (.value v) w' :=
  run_callFunc_extern Tryf.func15 (by kernel_rfl) (by kernel_rfl) (by kernel_rfl) (by kernel_rfl) args w

theorem Tryf.guard (name : String) (w : World) : (FmtStop.guard name).run Tryf.prog w = .ok () w := by kernel_rfl

theorem Tryf.fmt2 : FmtStop.printed? ⟨#[86, 101, 114, 100, 105, 99, 116, 40, 37, 100, 41]⟩ 1 = some [(0, 100, false)] := by kernel_rfl
theorem Tryf.fmt2r (w : World) : (FmtDoors.printed ⟨#[86, 101, 114, 100, 105, 99, 116, 40, 37, 100, 41]⟩ 1).run Tryf.prog w = .ok [(0, 100, false)] w := by kernel_rfl

theorem Tryf.name3 : Tryf.prog.typeName? 3 3 = some "int" := by kernel_rfl
def Tryf.shape3 : List UInt8 := [5, 3, 0, 0, 0, 0, 0, 0, 0, 105, 110, 116]
theorem Tryf.op3_100 (name : String) (x : Int) (w : World) : (FmtStop.operand name false 100 false (.iface 3 (.int .i64 x))).run Tryf.prog w = .ok (Tryf.shape3, Go.Extern.Stop.digits 8 (x % 2 ^ 64).toNat) w := by kernel_rfl
theorem Tryf.strict3 (name : String) (x : Int) (w : World) : (FmtStop.strict name (.iface 3 (.int .i64 x))).run Tryf.prog w = .ok (Tryf.shape3, Go.Extern.Stop.digits 8 (x % 2 ^ 64).toNat) w := by kernel_rfl

end Go.Proofs.Qxb6604569aFmt
