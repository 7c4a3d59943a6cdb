/- The closed facts for a walk over the stop at fmt.Sprintf (which calls its operands' methods): after the kit's own print for other programs, at this program's numbers. -/
import Derived.Test.Qxb6613844aFmtProg
import Derived.Stop.CallBack
import Derived.Stop.IfaceNil
import GoSem.ClaimData
namespace Go.Proofs.Qxb6613844aFmt
open Go.Extern.Stop Go.Stop Go.Extern

theorem call22 (args : Array Value) (w : World) : (callFunc 22 args).run Tryf.prog w = (FmtCalls.sprintf #[9, 74] #[9] args).run Tryf.prog w :=
  run_callFunc_next Tryf.func22 (by kernel_rfl) (by kernel_rfl) (by kernel_rfl) args w
theorem guardAny (name : String) (w : World) : (FmtStop.guard name).run Tryf.prog w = .ok () w := by kernel_rfl
theorem nextTurns : Extern.next FmtCalls.turnsRow = some (FmtCalls.begun #[] #[]) := by kernel_rfl

def shape3 : List UInt8 := [5, 3, 0, 0, 0, 0, 0, 0, 0, 105, 110, 116]
def shape9 : List UInt8 := [12, 6, 0, 0, 0, 0, 0, 0, 0, 115, 116, 114, 105, 110, 103]
theorem act9_115 (name : String) (x : Value) (w : World) : (FmtCalls.act name false 115 false (.iface 9 x)).run Tryf.prog w = .ok (.closed false) w := by kernel_rfl
theorem op9_115 (name : String) (x : ByteArray) (w : World) : (FmtStop.operand name false 115 false (.iface 9 (.string x))).run Tryf.prog w = .ok (shape9, FmtStop.pack x.data.toList) w := by kernel_rfl
theorem act3_100 (name : String) (x : Value) (w : World) : (FmtCalls.act name false 100 false (.iface 3 x)).run Tryf.prog w = .ok (.closed false) w := by kernel_rfl
theorem op3_100 (name : String) (x : Int) (w : World) : (FmtStop.operand name false 100 false (.iface 3 (.int .i64 x))).run Tryf.prog w = .ok (shape3, Go.Extern.Stop.digits 8 (x % 2 ^ 64).toNat) w := by kernel_rfl
theorem str9 (w : World) : (typeStr 9).run Tryf.prog w = .ok "string" w := by kernel_rfl
theorem str3 (w : World) : (typeStr 3).run Tryf.prog w = .ok "int" w := by kernel_rfl

/-- the format of the path -/
def fPath : ByteArray := ⟨#[37, 115, 91, 37, 100, 93]⟩
theorem fmtPath : FmtStop.printed? ⟨#[37, 115, 91, 37, 100, 93]⟩ 2 = some [(0, 115, false), (1, 100, false)] := by kernel_rfl
theorem fmtPathr (w : World) : (FmtDoors.printed ⟨#[37, 115, 91, 37, 100, 93]⟩ 2).run Tryf.prog w = .ok [(0, 115, false), (1, 100, false)] w := by kernel_rfl
end Go.Proofs.Qxb6613844aFmt
