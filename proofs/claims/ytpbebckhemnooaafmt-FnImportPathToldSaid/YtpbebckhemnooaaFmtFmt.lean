/- fmt.Errorf at the forms in which the program calls it: an error of errors.New's make comes back; its conditions are that the tape answers fmt's stop and what lies in the operands' cells. -/
import Derived.Test.YtpbebckhemnooaaFmtProg
import Derived.WalkKit
import Derived.WalkSpells
import Derived.Stop.CallBack
import Derived.Stop.IfaceNil
import Derived.Lib.Hide
import Derived.BigCall
import GoSem.ClaimData
namespace Go.Proofs.YtpbebckhemnooaaFmt
open Go.RowKit Go.Extern.Stop Go.Stop Go.Extern
set_option linter.unusedVariables false
set_option linter.unusedSimpArgs false

/-! ### closed facts for the stops -/
@[go_sem] theorem callErrorf (args : Array Value) (w : World) : (callFunc 79 args).run Tryf.prog w = (FmtCalls.errorf #[9, 73] #[43] args).run Tryf.prog w :=
  run_callFunc_next Tryf.func79 (by kernel_rfl) (by kernel_rfl) (by kernel_rfl) args w
@[go_sem] theorem callSprintf (args : Array Value) (w : World) : (callFunc 76 args).run Tryf.prog w = (FmtCalls.sprintf #[9, 73] #[9] args).run Tryf.prog w :=
  run_callFunc_next Tryf.func76 (by kernel_rfl) (by kernel_rfl) (by kernel_rfl) args w
@[go_sem] theorem stopGuard (name : String) (w : World) : (FmtStop.guard name).run Tryf.prog w = .ok () w := by kernel_rfl
theorem nextTurns : Extern.next FmtCalls.turnsRow = some (FmtCalls.begun #[] #[]) := by kernel_rfl
theorem nextReturned : Extern.next FmtCalls.returnedRow = some (FmtCalls.returned #[] #[]) := by kernel_rfl

def shapeS : List UInt8 := [12, 6, 0, 0, 0, 0, 0, 0, 0, 115, 116, 114, 105, 110, 103]
@[go_sem] theorem actS_113 (name : String) (x : Value) (w : World) : (FmtCalls.act name false 113 false (.iface 9 x)).run Tryf.prog w = .ok (.closed false) w := by kernel_rfl
@[go_sem] theorem opS_113 (name : String) (x : ByteArray) (w : World) : (FmtStop.operand name false 113 false (.iface 9 (.string x))).run Tryf.prog w = .ok (shapeS, FmtStop.pack x.data.toList) w := by kernel_rfl
@[go_sem] theorem actS_113w (name : String) (x : Value) (w : World) : (FmtCalls.act name true 113 false (.iface 9 x)).run Tryf.prog w = .ok (.closed true) w := by kernel_rfl
@[go_sem] theorem opS_113w (name : String) (x : ByteArray) (w : World) : (FmtStop.operand name true 113 false (.iface 9 (.string x))).run Tryf.prog w = .ok (shapeS, FmtStop.pack x.data.toList) w := by kernel_rfl
@[go_sem] theorem actS_115 (name : String) (x : Value) (w : World) : (FmtCalls.act name false 115 false (.iface 9 x)).run Tryf.prog w = .ok (.closed false) w := by kernel_rfl
@[go_sem] theorem opS_115 (name : String) (x : ByteArray) (w : World) : (FmtStop.operand name false 115 false (.iface 9 (.string x))).run Tryf.prog w = .ok (shapeS, FmtStop.pack x.data.toList) w := by kernel_rfl
@[go_sem] theorem actS_115w (name : String) (x : Value) (w : World) : (FmtCalls.act name true 115 false (.iface 9 x)).run Tryf.prog w = .ok (.closed true) w := by kernel_rfl
@[go_sem] theorem opS_115w (name : String) (x : ByteArray) (w : World) : (FmtStop.operand name true 115 false (.iface 9 (.string x))).run Tryf.prog w = .ok (shapeS, FmtStop.pack x.data.toList) w := by kernel_rfl
def shapeR : List UInt8 := [4, 5, 0, 0, 0, 0, 0, 0, 0, 105, 110, 116, 51, 50]
@[go_sem] theorem actR_113w (name : String) (x : Value) (w : World) : (FmtCalls.act name true 113 false (.iface 21 x)).run Tryf.prog w = .ok (.closed true) w := by kernel_rfl
@[go_sem] theorem opR_113w (name : String) (x : Int) (w : World) : (FmtStop.operand name true 113 false (.iface 21 (.int .i32 x))).run Tryf.prog w = .ok (shapeR, Go.Extern.Stop.digits 8 (x % 2 ^ 64).toNat) w := by kernel_rfl

@[go_sem] theorem ptrE (w : World) : (FmtStop.ptrTo "errors.errorString").run Tryf.prog w = .ok 79 w := by kernel_rfl
@[go_sem] theorem elemE (w : World) : (elemOf 79).run Tryf.prog w = .ok 81 w := by kernel_rfl

end Go.Proofs.YtpbebckhemnooaaFmt
