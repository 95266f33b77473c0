import Derived.Test.Qxb6618565aFmtCards
import Derived.Stop.CallBack
import Derived.Stop.IfaceNil
import GoSem.ClaimData
import Derived.KernelRfl
namespace Go.Proofs.Qxb6618565aFmt
open Go.Extern.Stop Go.Stop Go.Extern

theorem call11 (args : Array Value) (w : World) : (callFunc 11 args).run Tryf.prog w = ((FmtStop.sprintf #[9, 71] #[9] args).run Tryf.prog w).andThen fun v w' => .ok (.value v) w' :=
  run_callFunc_extern Tryf.func11 (by kernel_rfl) (by kernel_rfl) (by kernel_rfl) (by kernel_rfl) args w
theorem guard11 (name : String) (w : World) : (FmtStop.guard name).run Tryf.prog w = .ok () w := by kernel_rfl
theorem fmtA : FmtStop.printed? ⟨#[111, 110, 32, 108, 105, 110, 101, 32, 37, 100]⟩ 1 = some [(0, 100, false)] := by kernel_rfl
theorem fmtAr (w : World) : (FmtDoors.printed ⟨#[111, 110, 32, 108, 105, 110, 101, 32, 37, 100]⟩ 1).run Tryf.prog w = .ok [(0, 100, false)] w := by kernel_rfl
theorem fmtB : FmtStop.printed? ⟨#[111, 110, 32, 108, 105, 110, 101, 32, 37, 100, 32, 111, 102, 32, 37, 115]⟩ 2 = some [(0, 100, false), (1, 115, false)] := by kernel_rfl
theorem fmtBr (w : World) : (FmtDoors.printed ⟨#[111, 110, 32, 108, 105, 110, 101, 32, 37, 100, 32, 111, 102, 32, 37, 115]⟩ 2).run Tryf.prog w = .ok [(0, 100, false), (1, 115, false)] w := by kernel_rfl
def shape3 : List UInt8 := [5, 3, 0, 0, 0, 0, 0, 0, 0, 105, 110, 116]
theorem op3_100 (name : String) (x : Int) (w : World) : (FmtStop.operand name false 100 false (.iface 3 (.int .i64 x))).run Tryf.prog w = .ok (shape3, Go.Extern.Stop.digits 8 (x % 2 ^ 64).toNat) w := by kernel_rfl
def shape9 : List UInt8 := [12, 6, 0, 0, 0, 0, 0, 0, 0, 115, 116, 114, 105, 110, 103]
theorem op9_115 (name : String) (x : ByteArray) (w : World) : (FmtStop.operand name false 115 false (.iface 9 (.string x))).run Tryf.prog w = .ok (shape9, FmtStop.pack x.data.toList) w := by kernel_rfl
end Go.Proofs.Qxb6618565aFmt
