import Derived.Test.Qxb6612223aFmtRows
import Derived.Stop.CallBack
import Derived.Stop.IfaceNil
import Derived.Stop.FmtTextLaws
import GoSem.ClaimData
namespace Go.Proofs.Qxb6612223aFmt
open Go.Extern.Stop Go.Stop Go.Extern

@[go_sem] theorem call31 (args : Array Value) (w : World) : (callFunc 31 args).run Tryf.prog w = ((FmtStop.errorf #[9, 66] #[49] args).run Tryf.prog w).andThen fun v w' => .ok (.value v) w' :=
  run_callFunc_extern Tryf.func31 (by kernel_rfl) (by kernel_rfl) (by kernel_rfl) (by kernel_rfl) args w
@[go_sem] theorem guard0 (name : String) (w : World) : (FmtStop.guard name).run Tryf.prog w = .ok () w := by kernel_rfl
@[go_sem] theorem fmt0 : FmtStop.printed? ⟨#[37, 100, 32, 98, 121, 116, 101, 115, 32, 97, 114, 101, 32, 109, 111, 114, 101, 32, 116, 104, 97, 110, 32, 97, 32, 37, 100, 45, 98, 121, 116, 101, 32, 108, 101, 110, 103, 116, 104, 32, 99, 97, 110, 32, 99, 111, 117, 110, 116]⟩ 2 = some [(0, 100, false), (1, 100, false)] := by kernel_rfl
@[go_sem] theorem fmt0r (w : World) : (FmtDoors.printed ⟨#[37, 100, 32, 98, 121, 116, 101, 115, 32, 97, 114, 101, 32, 109, 111, 114, 101, 32, 116, 104, 97, 110, 32, 97, 32, 37, 100, 45, 98, 121, 116, 101, 32, 108, 101, 110, 103, 116, 104, 32, 99, 97, 110, 32, 99, 111, 117, 110, 116]⟩ 2).run Tryf.prog w = .ok [(0, 100, false), (1, 100, false)] w := by kernel_rfl
def shape3 : List UInt8 := [5, 3, 0, 0, 0, 0, 0, 0, 0, 105, 110, 116]
@[go_sem] theorem op3_100 (name : String) (x : Int) (w : World) : (FmtStop.operand name false 100 false (.iface 3 (.int .i64 x))).run Tryf.prog w = .ok (shape3, Go.Extern.Stop.digits 8 (x % 2 ^ 64).toNat) w := by kernel_rfl
@[go_sem] theorem op3_100w (name : String) (x : Int) (w : World) : (FmtStop.operand name true 100 false (.iface 3 (.int .i64 x))).run Tryf.prog w = .ok (shape3, Go.Extern.Stop.digits 8 (x % 2 ^ 64).toNat) w := by kernel_rfl
@[go_sem] theorem strict3 (name : String) (x : Int) (w : World) : (FmtStop.strict name (.iface 3 (.int .i64 x))).run Tryf.prog w = .ok (shape3, Go.Extern.Stop.digits 8 (x % 2 ^ 64).toNat) w := by kernel_rfl
@[go_sem] theorem ptr69 (w : World) : (FmtStop.ptrTo "errors.errorString").run Tryf.prog w = .ok 69 w := by kernel_rfl
@[go_sem] theorem isError69 (w : World) : (FmtDoors.textMethod 69 "Error").run Tryf.prog w = .ok true w := by kernel_rfl
@[go_sem] theorem elem69 (w : World) : (elemOf 69).run Tryf.prog w = .ok 71 w := by kernel_rfl
end Go.Proofs.Qxb6612223aFmt
