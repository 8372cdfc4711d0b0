/-
  THE CLOSED FACTS that the walk over fmt's stopped fronts wants, at this dump's numbers (after the make of the worked examples' Fmt texts).
-/
import Derived.Test.Qxb6616321aFmtProg
import Derived.Stop.CallBack
import Derived.Stop.IfaceNil
import GoSem.ClaimData
namespace Go.Proofs
open Go.Extern.Stop Go.Stop Go.Extern

-- fmt.errorf: function 15: a stop that calls its operands' methods
@[go_sem] theorem Tryf.call15 (args : Array Value) (w : World) : (callFunc 15 args).run Tryf.prog w = (FmtCalls.errorf #[9, 49] #[36] args).run Tryf.prog w :=
  run_callFunc_next Tryf.func15 (by kernel_rfl) (by kernel_rfl) (by kernel_rfl) args w
@[go_sem] theorem Tryf.guard (name : String) (w : World) : (FmtStop.guard name).run Tryf.prog w = .ok () w := by kernel_rfl
theorem Tryf.nextTurns : Extern.next FmtCalls.turnsRow = some (FmtCalls.begun #[] #[]) := by kernel_rfl
theorem Tryf.nextReturned : Extern.next FmtCalls.returnedRow = some (FmtCalls.returned #[] #[]) := by kernel_rfl

-- the format that usedUp hands to fmt.Errorf, one operand
@[go_sem] theorem Tryf.fmt0 : FmtStop.printed? ⟨#[110, 97, 115, 115, 101, 99, 58, 32, 37, 115, 32, 78, 65, 83, 32, 67, 79, 85, 78, 84, 32, 117, 115, 101, 100, 32, 117, 112]⟩ 1 = some [(0, 115, false)] := by kernel_rfl
@[go_sem] theorem Tryf.fmt0r (w : World) : (FmtDoors.printed ⟨#[110, 97, 115, 115, 101, 99, 58, 32, 37, 115, 32, 78, 65, 83, 32, 67, 79, 85, 78, 84, 32, 117, 115, 101, 100, 32, 117, 112]⟩ 1).run Tryf.prog w = .ok [(0, 115, false)] w := by kernel_rfl

-- type 39: nassec.Direction
@[go_sem] theorem Tryf.act39_115w (name : String) (x : Value) (w : World) : (FmtCalls.act name true 115 false (.iface 39 x)).run Tryf.prog w = .ok (.call false) w := by kernel_rfl
@[go_sem] theorem Tryf.isString39 (w : World) : (FmtDoors.textMethod 39 "String").run Tryf.prog w = .ok true w := by kernel_rfl
theorem Tryf.invokeString39 (x : Value) (w : World) : (invoke (.fn (.method "String") #[]) #[.iface 39 x]).run Tryf.prog w = .ok (.enter 13 #[x]) w := by kernel_rfl
@[go_sem] theorem Tryf.str39 (w : World) : (typeStr 39).run Tryf.prog w = .ok "nassec.Direction" w := by kernel_rfl

-- the error types that fmt.errorf makes
@[go_sem] theorem Tryf.ptr52 (w : World) : (FmtStop.ptrTo "errors.errorString").run Tryf.prog w = .ok 52 w := by kernel_rfl
@[go_sem] theorem Tryf.elem52 (w : World) : (elemOf 52).run Tryf.prog w = .ok 54 w := by kernel_rfl
@[go_sem] theorem Tryf.isError52' (w : World) : (FmtDoors.textMethod 52 "Error").run Tryf.prog w = .ok true w := by kernel_rfl
@[go_sem] theorem Tryf.ptr51 (w : World) : (FmtStop.ptrTo "fmt.wrapError").run Tryf.prog w = .ok 51 w := by kernel_rfl
@[go_sem] theorem Tryf.elem51 (w : World) : (elemOf 51).run Tryf.prog w = .ok 71 w := by kernel_rfl
@[go_sem] theorem Tryf.isError51' (w : World) : (FmtDoors.textMethod 51 "Error").run Tryf.prog w = .ok true w := by kernel_rfl
end Go.Proofs
