/-
  DERIVED. THE CLOSED FACTS for the walks over fmt.errorf's stop in this seat's cut (function 7). Each by the kernel's own evaluation.
-/
import Derived.Test.Qxb6617054aFmtCards
import Derived.Stop.CallBack
import Derived.Stop.IfaceNil
import GoSem.ClaimData
namespace Go.Proofs.Qxb6617054aFmt
open Go.Extern.Stop Go.Stop Go.Extern

theorem call7 (args : Array Value) (w : World) : (callFunc 7 args).run Tryf.prog w = ((FmtStop.errorf #[9, 31] #[26] args).run Tryf.prog w).andThen fun v w' => .ok (.value v) w' :=
  run_callFunc_extern Tryf.func7 (by kernel_rfl) (by kernel_rfl) (by kernel_rfl) (by kernel_rfl) args w

theorem guardS (name : String) (w : World) : (FmtStop.guard name).run Tryf.prog w = .ok () w := by kernel_rfl

theorem fmt0r (w : World) : (FmtDoors.printed ⟨#[37, 100, 32, 101, 110, 116, 114, 105, 101, 115, 44, 32, 119, 97, 110, 116, 32, 97, 116, 32, 108, 101, 97, 115, 116, 32, 49]⟩ 1).run Tryf.prog w = .ok [(0, 100, false)] w := by kernel_rfl
theorem fmt1r (w : World) : (FmtDoors.printed ⟨#[97, 32, 99, 108, 117, 115, 116, 101, 114, 32, 111, 102, 32, 37, 100, 32, 110, 111, 100, 101, 115, 44, 32, 119, 97, 110, 116, 32, 37, 100, 32, 116, 111, 32, 37, 100]⟩ 3).run Tryf.prog w = .ok [(0, 100, false), (1, 100, false), (2, 100, false)] w := by kernel_rfl

def shape3 : List UInt8 := [5, 3, 0, 0, 0, 0, 0, 0, 0, 105, 110, 116]
theorem op3_100w (name : String) (x : Int) (w : World) : (FmtStop.operand name true 100 false (.iface 3 (.int .i64 x))).run Tryf.prog w = .ok (shape3, Go.Extern.Stop.digits 8 (x % 2 ^ 64).toNat) w := by kernel_rfl

theorem ptr34 (w : World) : (FmtStop.ptrTo "errors.errorString").run Tryf.prog w = .ok 34 w := by kernel_rfl
theorem elem34 (w : World) : (elemOf 34).run Tryf.prog w = .ok 36 w := by kernel_rfl

end Go.Proofs.Qxb6617054aFmt
