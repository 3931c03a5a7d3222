/-
  THE CLOSED FACTS FOR A WALK OVER fmt's STOPPED FRONT fmt.errorf in this dump (after the kit's HexbadFmt.lean). Each is proved by the kernel's own evaluation.
-/
import Derived.Test.YbulkldcFmtCards
import Derived.Stop.CallBack
import Derived.Stop.IfaceNil
import GoSem.ClaimData
namespace Go.Proofs
open Go.Extern.Stop Go.Stop Go.Extern

theorem Ybaf.call39 (args : Array Value) (w : World) : (callFunc 39 args).run Ybaf.prog w = (FmtCalls.errorf #[9, 108] #[26] args).run Ybaf.prog w :=
  run_callFunc_next Ybaf.func39 (by kernel_rfl) (by kernel_rfl) (by kernel_rfl) args w
theorem Ybaf.guard (name : String) (w : World) : (FmtStop.guard name).run Ybaf.prog w = .ok () w := by kernel_rfl
theorem Ybaf.nextTurns : Extern.next FmtCalls.turnsRow = some (FmtCalls.begun #[] #[]) := by kernel_rfl
theorem Ybaf.nextReturned : Extern.next FmtCalls.returnedRow = some (FmtCalls.returned #[] #[]) := by kernel_rfl

-- 'decoding the state: a value %d', 1 operand
theorem Ybaf.fmtA : FmtStop.printed? ⟨#[100, 101, 99, 111, 100, 105, 110, 103, 32, 116, 104, 101, 32, 115, 116, 97, 116, 101, 58, 32, 97, 32, 118, 97, 108, 117, 101, 32, 37, 100]⟩ 1 = some [(0, 100, false)] := by kernel_rfl
theorem Ybaf.fmtAr (w : World) : (FmtDoors.printed ⟨#[100, 101, 99, 111, 100, 105, 110, 103, 32, 116, 104, 101, 32, 115, 116, 97, 116, 101, 58, 32, 97, 32, 118, 97, 108, 117, 101, 32, 37, 100]⟩ 1).run Ybaf.prog w = .ok [(0, 100, false)] w := by kernel_rfl

-- type 2: int64
def Ybaf.shape2 : List UInt8 := [FmtStop.intCode .i64, 5, 0, 0, 0, 0, 0, 0, 0, 105, 110, 116, 54, 52]
theorem Ybaf.act2_100w (name : String) (x : Value) (w : World) : (FmtCalls.act name true 100 false (.iface 2 x)).run Ybaf.prog w = .ok (.closed true) w := by kernel_rfl
theorem Ybaf.op2_100w (name : String) (x : Int) (w : World) : (FmtStop.operand name true 100 false (.iface 2 (.int .i64 x))).run Ybaf.prog w = .ok (Ybaf.shape2, Go.Extern.Stop.digits 8 (x % 2 ^ 64).toNat) w := by kernel_rfl
theorem Ybaf.strict2 (name : String) (x : Int) (w : World) : (FmtStop.strict name (.iface 2 (.int .i64 x))).run Ybaf.prog w = .ok (Ybaf.shape2, Go.Extern.Stop.digits 8 (x % 2 ^ 64).toNat) w := by kernel_rfl

-- the error type that fmt.errorf makes
theorem Ybaf.ptr105 (w : World) : (FmtStop.ptrTo "errors.errorString").run Ybaf.prog w = .ok 105 w := by kernel_rfl
theorem Ybaf.elem105 (w : World) : (elemOf 105).run Ybaf.prog w = .ok 107 w := by kernel_rfl
theorem Ybaf.isError105 (w : World) : (FmtDoors.textMethod 105 "Error").run Ybaf.prog w = .ok true w := by kernel_rfl
end Go.Proofs
