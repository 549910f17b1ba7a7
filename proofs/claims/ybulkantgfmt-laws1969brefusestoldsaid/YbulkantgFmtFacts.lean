/-
  DERIVED. THE CLOSED FACTS FOR A WALK OVER fmt's STOPPED FRONT AT THIS SEAT's DUMP (after the make of the guide's HexbadFmt.lean, LevelsFmt.lean). Each is proved by the kernel's own evaluation.
-/
import Derived.Test.YbulkantgFmtRows
import Derived.Stop.CallBack
import Derived.Stop.IfaceNil
import GoSem.ClaimData
namespace Go.Proofs
open Go.Extern.Stop Go.Stop Go.Extern

theorem Ybaf.call8 (args : Array Value) (w : World) : (callFunc 8 args).run Ybaf.prog w = (FmtCalls.errorf #[9, 32] #[24] args).run Ybaf.prog w :=
  run_callFunc_next Ybaf.func8 (by kernel_rfl) (by kernel_rfl) (by kernel_rfl) args w
theorem Ybaf.guard (name : String) (w : World) : (FmtStop.guard name).run Ybaf.prog w = .ok () w := by kernel_rfl
theorem Ybaf.nextTurns : Extern.next FmtCalls.turnsRow = some (FmtCalls.begun #[] #[]) := by kernel_rfl
theorem Ybaf.nextReturned : Extern.next FmtCalls.returnedRow = some (FmtCalls.returned #[] #[]) := by kernel_rfl
-- the Kind: its own String is called
theorem Ybaf.act26_115w (name : String) (x : Value) (w : World) : (FmtCalls.act name true 115 false (.iface 26 x)).run Ybaf.prog w = .ok (.call false) w := by kernel_rfl
theorem Ybaf.isString26 (w : World) : (FmtDoors.textMethod 26 "String").run Ybaf.prog w = .ok true w := by kernel_rfl
theorem Ybaf.invokeString26 (x : Value) (w : World) : (invoke (.fn (.method "String") #[]) #[.iface 26 x]).run Ybaf.prog w = .ok (.enter 10 #[x]) w := by kernel_rfl
theorem Ybaf.str26 (w : World) : (typeStr 26).run Ybaf.prog w = .ok "serialgraph.Kind" w := by kernel_rfl
-- a string
def Ybaf.shape9 : List UInt8 := [12, 6, 0, 0, 0, 0, 0, 0, 0, 115, 116, 114, 105, 110, 103]
theorem Ybaf.act9_115w (name : String) (x : Value) (w : World) : (FmtCalls.act name true 115 false (.iface 9 x)).run Ybaf.prog w = .ok (.closed true) w := by kernel_rfl
theorem Ybaf.op9_115w (name : String) (x : ByteArray) (w : World) : (FmtStop.operand name true 115 false (.iface 9 (.string x))).run Ybaf.prog w = .ok (Ybaf.shape9, FmtStop.pack x.data.toList) w := by kernel_rfl
theorem Ybaf.str9 (w : World) : (typeStr 9).run Ybaf.prog w = .ok "string" w := by kernel_rfl
-- the error type that it makes
theorem Ybaf.ptr41 (w : World) : (FmtStop.ptrTo "errors.errorString").run Ybaf.prog w = .ok 41 w := by kernel_rfl
theorem Ybaf.elem41 (w : World) : (elemOf 41).run Ybaf.prog w = .ok 43 w := by kernel_rfl
theorem Ybaf.isError41 (w : World) : (FmtDoors.textMethod 41 "Error").run Ybaf.prog w = .ok true w := by kernel_rfl
-- the two formats
def Ybaf.formA : ByteArray := ⟨#[37, 115, 32, 111, 112, 101, 114, 97, 116, 105, 111, 110, 115, 32, 97, 114, 101, 32, 110, 111, 116, 32, 114, 101, 97, 100, 32, 104, 101, 114, 101, 58, 32, 110, 111, 32, 111, 112, 101, 114, 97, 116, 105, 111, 110, 32, 105, 115]⟩
theorem Ybaf.fmtA : FmtStop.printed? Ybaf.formA 1 = some [(0, 115, false)] := by kernel_rfl
theorem Ybaf.fmtAr (w : World) : (FmtDoors.printed Ybaf.formA 1).run Ybaf.prog w = .ok [(0, 115, false)] w := by kernel_rfl
def Ybaf.formB : ByteArray := ⟨#[37, 115, 32, 111, 112, 101, 114, 97, 116, 105, 111, 110, 115, 32, 97, 114, 101, 32, 110, 111, 116, 32, 114, 101, 97, 100, 32, 104, 101, 114, 101, 58, 32, 97, 110, 32, 111, 112, 101, 114, 97, 116, 105, 111, 110, 32, 104, 101, 114, 101, 32, 115, 116, 97, 114, 116, 115, 32, 119, 105, 116, 104, 32, 37, 115]⟩
theorem Ybaf.fmtB : FmtStop.printed? Ybaf.formB 2 = some [(0, 115, false), (1, 115, false)] := by kernel_rfl
theorem Ybaf.fmtBr (w : World) : (FmtDoors.printed Ybaf.formB 2).run Ybaf.prog w = .ok [(0, 115, false), (1, 115, false)] w := by kernel_rfl
end Go.Proofs
