/- The closed facts for walks over fmt's stopped fronts, at this seat's dump. -/
import Derived.Test.Qxb6608910aFmtProg
import Derived.Stop.CallBack
import Derived.Stop.IfaceNil
import GoSem.ClaimData
import Derived.WalkKit
import Derived.WalkSpells
namespace Go.Proofs.Qxb6608910aFmt
open Go.Extern.Stop Go.Stop Go.Extern
set_option maxRecDepth 100000

theorem call21 (args : Array Value) (w : World) : (callFunc 21 args).run Tryf.prog w = (FmtCalls.sprintf #[9, 64] #[9] args).run Tryf.prog w :=
  run_callFunc_next Tryf.func21 (by kernel_rfl) (by kernel_rfl) (by kernel_rfl) args w
theorem fguard (name : String) (w : World) : (FmtStop.guard name).run Tryf.prog w = .ok () w := by kernel_rfl
theorem nextTurns : Extern.next FmtCalls.turnsRow = some (FmtCalls.begun #[] #[]) := by kernel_rfl

/-- The format of DayToSecond.String. -/
theorem fmtA : FmtStop.printed? ⟨#[37, 115, 37, 100, 32, 37, 48, 50, 100, 58, 37, 48, 50, 100, 58, 37, 48, 50, 100, 46, 37, 48, 54, 100]⟩ 6 = some [(0, 115, false), (1, 100, false), (2, 100, false), (3, 100, false), (4, 100, false), (5, 100, false)] := by kernel_rfl
/-- The format of Time.String. -/
theorem fmtB : FmtStop.printed? ⟨#[37, 48, 50, 100, 58, 37, 48, 50, 100, 58, 37, 48, 50, 100]⟩ 3 = some [(0, 100, false), (1, 100, false), (2, 100, false)] := by kernel_rfl

def shape2 : List UInt8 := [5, 5, 0, 0, 0, 0, 0, 0, 0, 105, 110, 116, 54, 52]
def shape3 : List UInt8 := [5, 3, 0, 0, 0, 0, 0, 0, 0, 105, 110, 116]
def shape9 : List UInt8 := [12, 6, 0, 0, 0, 0, 0, 0, 0, 115, 116, 114, 105, 110, 103]
theorem act2 (name : String) (x : Value) (w : World) : (FmtCalls.act name false 100 false (.iface 2 x)).run Tryf.prog w = .ok (.closed false) w := by kernel_rfl
theorem act3 (name : String) (x : Value) (w : World) : (FmtCalls.act name false 100 false (.iface 3 x)).run Tryf.prog w = .ok (.closed false) w := by kernel_rfl
theorem act9 (name : String) (x : Value) (w : World) : (FmtCalls.act name false 115 false (.iface 9 x)).run Tryf.prog w = .ok (.closed false) w := by kernel_rfl
theorem op2 (name : String) (x : Int) (w : World) : (FmtStop.operand name false 100 false (.iface 2 (.int .i64 x))).run Tryf.prog w = .ok (shape2, Go.Extern.Stop.digits 8 (x % 2 ^ 64).toNat) w := by kernel_rfl
theorem op3 (name : String) (x : Int) (w : World) : (FmtStop.operand name false 100 false (.iface 3 (.int .i64 x))).run Tryf.prog w = .ok (shape3, Go.Extern.Stop.digits 8 (x % 2 ^ 64).toNat) w := by kernel_rfl
theorem op9 (name : String) (x : ByteArray) (w : World) : (FmtStop.operand name false 115 false (.iface 9 (.string x))).run Tryf.prog w = .ok (shape9, FmtStop.pack x.data.toList) w := by kernel_rfl
end Go.Proofs.Qxb6608910aFmt
