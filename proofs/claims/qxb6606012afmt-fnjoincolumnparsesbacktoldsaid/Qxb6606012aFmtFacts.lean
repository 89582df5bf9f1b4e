/-
  The closed facts for a walk over fmt.Sprintf, the stopped front of this dump: its format and its operands. After the make of the worked texts over such dumps.
-/
import Derived.Test.Qxb6606012aFmtProg
import Derived.Stop.CallBack
import Derived.Stop.IfaceNil
import Derived.KernelRfl
import GoSem.ClaimData
namespace Go.Proofs.Qxb6606012aFmt
open Go.Extern.Stop Go.Stop Go.Extern

theorem call9 (args : Array Value) (w : World) : (callFunc 9 args).run Tryf.prog w = ((FmtStop.sprintf #[9, 46] #[9] args).run Tryf.prog w).andThen fun v w' => .ok (.value v) w' :=
  run_callFunc_extern Tryf.func9 (by kernel_rfl) (by kernel_rfl) (by kernel_rfl) (by kernel_rfl) args w
theorem guardAny (name : String) (w : World) : (FmtStop.guard name).run Tryf.prog w = .ok () w := by kernel_rfl
theorem fmt2 : FmtStop.printed? ⟨#[107, 105, 110, 95, 37, 100, 95, 37, 100]⟩ 2 = some [(0, 100, false), (1, 100, false)] := by kernel_rfl
theorem fmt2r (w : World) : (FmtDoors.printed ⟨#[107, 105, 110, 95, 37, 100, 95, 37, 100]⟩ 2).run Tryf.prog w = .ok [(0, 100, false), (1, 100, false)] w := by kernel_rfl
def shape3 : List UInt8 := [5, 3, 0, 0, 0, 0, 0, 0, 0, 105, 110, 116]
theorem op3_100 (name : String) (x : Int) (w : World) : (FmtStop.operand name false 100 false (.iface 3 (.int .i64 x))).run Tryf.prog w = .ok (shape3, Go.Extern.Stop.digits 8 (x % 2 ^ 64).toNat) w := by kernel_rfl

/-- What fmt is asked. -/
def reading (a b : Int) : List (List UInt8) :=
  [[107, 105, 110, 95, 37, 100, 95, 37, 100], shape3, digits 8 (a % 18446744073709551616).toNat, shape3, digits 8 (b % 18446744073709551616).toNat]
end Go.Proofs.Qxb6606012aFmt
