/-
  DERIVED. THE CLOSED FACTS for the walks over fmt.Sprintf's stop in this seat's cut (function 11). Each by the kernel's own evaluation.
-/
import Derived.Test.Qxb6616479aFmtCards
import Derived.Stop.CallBack
import Derived.Stop.IfaceNil
import GoSem.ClaimData
namespace Go.Proofs.Qxb6616479aFmt
open Go.Extern.Stop Go.Stop Go.Extern

/-- The format of (*ShapeError).Error, as the cut holds it. -/
def fmtBytes : List UInt8 := [78, 111, 100, 101, 32, 37, 113, 32, 97, 109, 111, 110, 103, 32, 116, 104, 101, 32, 109, 97, 110, 105, 102, 101, 115, 116, 115, 32, 104, 97, 115, 32, 116, 104, 101, 32, 110, 97, 109, 101, 32, 111, 102, 32, 97, 32, 78, 111, 100, 101, 32, 111, 102, 32, 115, 104, 97, 112, 101, 32, 37, 113, 32, 116, 104, 97, 116, 32, 109, 97, 121, 32, 98, 101, 32, 97, 100, 100, 101, 100, 44, 32, 119, 104, 105, 99, 104, 32, 97, 114, 101, 32, 110, 97, 109, 101, 100, 32, 37, 115, 45, 49, 32, 111, 110]

theorem call11 (args : Array Value) (w : World) : (callFunc 11 args).run Tryf.prog w = ((FmtStop.sprintf #[9, 52] #[9] args).run Tryf.prog w).andThen fun v w' => .ok (.value v) w' :=
  run_callFunc_extern Tryf.func11 (by kernel_rfl) (by kernel_rfl) (by kernel_rfl) (by kernel_rfl) args w

theorem guardS (name : String) (w : World) : (FmtStop.guard name).run Tryf.prog w = .ok () w := by kernel_rfl

theorem fmt0 : FmtStop.printed? ⟨#[78, 111, 100, 101, 32, 37, 113, 32, 97, 109, 111, 110, 103, 32, 116, 104, 101, 32, 109, 97, 110, 105, 102, 101, 115, 116, 115, 32, 104, 97, 115, 32, 116, 104, 101, 32, 110, 97, 109, 101, 32, 111, 102, 32, 97, 32, 78, 111, 100, 101, 32, 111, 102, 32, 115, 104, 97, 112, 101, 32, 37, 113, 32, 116, 104, 97, 116, 32, 109, 97, 121, 32, 98, 101, 32, 97, 100, 100, 101, 100, 44, 32, 119, 104, 105, 99, 104, 32, 97, 114, 101, 32, 110, 97, 109, 101, 100, 32, 37, 115, 45, 49, 32, 111, 110]⟩ 3 = some [(0, 113, false), (1, 113, false), (2, 115, false)] := by kernel_rfl
theorem fmt0r (w : World) : (FmtDoors.printed ⟨#[78, 111, 100, 101, 32, 37, 113, 32, 97, 109, 111, 110, 103, 32, 116, 104, 101, 32, 109, 97, 110, 105, 102, 101, 115, 116, 115, 32, 104, 97, 115, 32, 116, 104, 101, 32, 110, 97, 109, 101, 32, 111, 102, 32, 97, 32, 78, 111, 100, 101, 32, 111, 102, 32, 115, 104, 97, 112, 101, 32, 37, 113, 32, 116, 104, 97, 116, 32, 109, 97, 121, 32, 98, 101, 32, 97, 100, 100, 101, 100, 44, 32, 119, 104, 105, 99, 104, 32, 97, 114, 101, 32, 110, 97, 109, 101, 100, 32, 37, 115, 45, 49, 32, 111, 110]⟩ 3).run Tryf.prog w = .ok [(0, 113, false), (1, 113, false), (2, 115, false)] w := by kernel_rfl

def shape9 : List UInt8 := [12, 6, 0, 0, 0, 0, 0, 0, 0, 115, 116, 114, 105, 110, 103]
theorem op9_115 (name : String) (x : ByteArray) (w : World) : (FmtStop.operand name false 115 false (.iface 9 (.string x))).run Tryf.prog w = .ok (shape9, FmtStop.pack x.data.toList) w := by kernel_rfl
theorem op9_113 (name : String) (x : ByteArray) (w : World) : (FmtStop.operand name false 113 false (.iface 9 (.string x))).run Tryf.prog w = .ok (shape9, FmtStop.pack x.data.toList) w := by kernel_rfl

/-- WHAT fmt IS ASKED by (*ShapeError).Error: the format; Taken, Shape, Shape. -/
def reading (shape taken : List UInt8) : List (List UInt8) :=
  [fmtBytes, shape9, FmtStop.pack taken, shape9, FmtStop.pack shape, shape9, FmtStop.pack shape]

theorem method33 (x : Value) (w : World) : (method 154 33 x "Error").run Tryf.prog w = .ok (27, x) w := by kernel_rfl
theorem method26 (x : Value) (w : World) : (method 154 26 x "Error").run Tryf.prog w = .ok (10, x) w := by kernel_rfl

end Go.Proofs.Qxb6616479aFmt
