/- fmt.Errorf at the forms in which the program calls it: an error of errors.New's make comes back; its conditions are that the tape answers fmt's stop and what lies in the operands' cells. fmt.Errorf at the forms in which the program calls it: an error of errors.New's make comes back; the conditions are that the tape answers fmt's stop, and what lies in the operands' cells. -/
import Derived.Test.YtpbebckhemnooaaFmtProg
import Derived.WalkKit
import Derived.WalkSpells
import Derived.Stop.CallBack
import Derived.Stop.IfaceNil
import Derived.Lib.Hide
import Derived.BigCall
import GoSem.ClaimData

namespace Go.Proofs.YtpbebckhemnooaaFmt
open Go.RowKit Go.Extern.Stop Go.Stop Go.Extern
set_option linter.unusedVariables false
set_option linter.unusedSimpArgs false

/-! ### closed facts for the stops -/
@[go_sem] theorem callErrorf (args : Array Value) (w : World) : (callFunc 79 args).run Tryf.prog w = (FmtCalls.errorf #[9, 73] #[43] args).run Tryf.prog w :=
  run_callFunc_next Tryf.func79 (by kernel_rfl) (by kernel_rfl) (by kernel_rfl) args w
@[go_sem] theorem callSprintf (args : Array Value) (w : World) : (callFunc 76 args).run Tryf.prog w = (FmtCalls.sprintf #[9, 73] #[9] args).run Tryf.prog w :=
  run_callFunc_next Tryf.func76 (by kernel_rfl) (by kernel_rfl) (by kernel_rfl) args w
@[go_sem] theorem stopGuard (name : String) (w : World) : (FmtStop.guard name).run Tryf.prog w = .ok () w := by kernel_rfl
theorem nextTurns : Extern.next FmtCalls.turnsRow = some (FmtCalls.begun #[] #[]) := by kernel_rfl
theorem nextReturned : Extern.next FmtCalls.returnedRow = some (FmtCalls.returned #[] #[]) := by kernel_rfl

def shapeS : List UInt8 := [12, 6, 0, 0, 0, 0, 0, 0, 0, 115, 116, 114, 105, 110, 103]
@[go_sem] theorem actS_113 (name : String) (x : Value) (w : World) : (FmtCalls.act name false 113 false (.iface 9 x)).run Tryf.prog w = .ok (.closed false) w := by kernel_rfl
@[go_sem] theorem opS_113 (name : String) (x : ByteArray) (w : World) : (FmtStop.operand name false 113 false (.iface 9 (.string x))).run Tryf.prog w = .ok (shapeS, FmtStop.pack x.data.toList) w := by kernel_rfl
@[go_sem] theorem actS_113w (name : String) (x : Value) (w : World) : (FmtCalls.act name true 113 false (.iface 9 x)).run Tryf.prog w = .ok (.closed true) w := by kernel_rfl
@[go_sem] theorem opS_113w (name : String) (x : ByteArray) (w : World) : (FmtStop.operand name true 113 false (.iface 9 (.string x))).run Tryf.prog w = .ok (shapeS, FmtStop.pack x.data.toList) w := by kernel_rfl
@[go_sem] theorem actS_115 (name : String) (x : Value) (w : World) : (FmtCalls.act name false 115 false (.iface 9 x)).run Tryf.prog w = .ok (.closed false) w := by kernel_rfl
@[go_sem] theorem opS_115 (name : String) (x : ByteArray) (w : World) : (FmtStop.operand name false 115 false (.iface 9 (.string x))).run Tryf.prog w = .ok (shapeS, FmtStop.pack x.data.toList) w := by kernel_rfl
@[go_sem] theorem actS_115w (name : String) (x : Value) (w : World) : (FmtCalls.act name true 115 false (.iface 9 x)).run Tryf.prog w = .ok (.closed true) w := by kernel_rfl
@[go_sem] theorem opS_115w (name : String) (x : ByteArray) (w : World) : (FmtStop.operand name true 115 false (.iface 9 (.string x))).run Tryf.prog w = .ok (shapeS, FmtStop.pack x.data.toList) w := by kernel_rfl
def shapeR : List UInt8 := [4, 5, 0, 0, 0, 0, 0, 0, 0, 105, 110, 116, 51, 50]
@[go_sem] theorem actR_113w (name : String) (x : Value) (w : World) : (FmtCalls.act name true 113 false (.iface 21 x)).run Tryf.prog w = .ok (.closed true) w := by kernel_rfl
@[go_sem] theorem opR_113w (name : String) (x : Int) (w : World) : (FmtStop.operand name true 113 false (.iface 21 (.int .i32 x))).run Tryf.prog w = .ok (shapeR, Go.Extern.Stop.digits 8 (x % 2 ^ 64).toNat) w := by kernel_rfl

@[go_sem] theorem ptrE (w : World) : (FmtStop.ptrTo "errors.errorString").run Tryf.prog w = .ok 79 w := by kernel_rfl
@[go_sem] theorem elemE (w : World) : (elemOf 79).run Tryf.prog w = .ok 81 w := by kernel_rfl

end Go.Proofs.YtpbebckhemnooaaFmt

namespace Go.Proofs.YtpbebckhemnooaaFmt
open Go.RowKit Go.Extern.Stop Go.Stop Go.Extern
set_option linter.unusedVariables false
set_option linter.unusedSimpArgs false

/-- An error of errors.New's make, in memory that is new; what was there is there. -/
def ErrS (w : World) (e : Ending) (w' : World) : Prop :=
  ∃ (a : Addr) (s : ByteArray), e = .returned (.iface 79 (.pointer (some a))) ∧ w'.cell? a = some (.string s) ∧ Below w.heap.size w w'

theorem ErrS.mono {w0 w w' : World} {e : Ending} (h : ErrS w e w') (hb : Below w0.heap.size w0 w) : ErrS w0 e w' := by
  obtain ⟨a, s, h1, h2, h3⟩ := h
  exact ⟨a, s, h1, h2, hb.trans (h3.mono hb.size)⟩

set_option maxHeartbeats 800000 in
/-- fmt.Errorf of a format without operands. -/
theorem errorf_none (f : ByteArray) (hf : ¬ 37 ∈ f.data) (w : World) :
    Calls Tryf.prog 55 #[.string f, .slice none 0 0] w (ErrS w) := by
  go_enter Tryf.func55, Tryf.ntmps55
  go_wp2
  go_ret
  exact ⟨⟨w.heap.size, 0, none⟩, f, rfl, by go_simp, (Below.refl _ _).alloc (Nat.le_refl _) _⟩

/-- What a format of one operand under %q comes to. -/
def Fmt1 (f : ByteArray) (v : UInt8) : Prop := ∀ w : World, (FmtDoors.printed f 1).run Tryf.prog w = .ok [(0, v, false)] w

set_option maxHeartbeats 800000 in
/-- fmt.Errorf of a format with one text under %q. -/
theorem errorf_str (F : Interp) (f x : ByteArray) (blk : Nat) (w : World) (hF : F.answers w.tape) (hp : Fmt1 f 113) (hc : w.cell? ⟨blk, 0, none⟩ = some (.iface 9 (.string x))) :
    Calls Tryf.prog 55 #[.string f, .slice (some ⟨blk, 0, none⟩) 1 1] w (ErrS w) := by
  have hF' := answers_open hF
  have hp' : ∀ w : World, (FmtDoors.printed f 1).run Tryf.prog w = .ok [(0, 113, false)] w := hp
  clear hp
  go_enter Tryf.func55, Tryf.ntmps55
  go_wp2
  apply rows_value nextTurns
  case hr => go_simp; exact ⟨rfl, rfl⟩
  case h =>
    go_wp2
    go_ret
    exact ⟨⟨w.heap.size, 0, none⟩, _, rfl, (by go_simp; rfl), ((Below.refl _ _).alloc (Nat.le_refl _) _).drew⟩

set_option maxHeartbeats 800000 in
/-- fmt.Errorf of a format with one rune under %q. -/
theorem errorf_rune (F : Interp) (f : ByteArray) (x : Int) (blk : Nat) (w : World) (hF : F.answers w.tape) (hp : Fmt1 f 113) (hc : w.cell? ⟨blk, 0, none⟩ = some (.iface 21 (.int .i32 x))) :
    Calls Tryf.prog 55 #[.string f, .slice (some ⟨blk, 0, none⟩) 1 1] w (ErrS w) := by
  have hF' := answers_open hF
  have hp' : ∀ w : World, (FmtDoors.printed f 1).run Tryf.prog w = .ok [(0, 113, false)] w := hp
  clear hp
  go_enter Tryf.func55, Tryf.ntmps55
  go_wp2
  apply rows_value nextTurns
  case hr => go_simp; exact ⟨rfl, rfl⟩
  case h =>
    go_wp2
    go_ret
    exact ⟨⟨w.heap.size, 0, none⟩, _, rfl, (by go_simp; rfl), ((Below.refl _ _).alloc (Nat.le_refl _) _).drew⟩

end Go.Proofs.YtpbebckhemnooaaFmt
