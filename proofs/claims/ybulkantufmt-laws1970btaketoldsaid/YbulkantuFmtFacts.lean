/-
  DERIVED. THE CLOSED FACTS FOR A WALK OVER fmt's STOPPED FRONT AT THIS SEAT's DUMP (after the make of the guide's CheckFmt.lean). Each is proved by the kernel's own evaluation.
-/
import Derived.Test.YbulkantuFmtRows
import Derived.Stop.CallBack
import Derived.Stop.IfaceNil
import GoSem.ClaimData
namespace Go.Proofs
open Go.Extern.Stop Go.Stop Go.Extern

theorem Ybaf.call14 (args : Array Value) (w : World) : (callFunc 14 args).run Ybaf.prog w = ((FmtStop.errorf #[9, 77] #[57] args).run Ybaf.prog w).andThen fun v w' => .ok (.value v) w' :=
  run_callFunc_extern Ybaf.func14 (by kernel_rfl) (by kernel_rfl) (by kernel_rfl) (by kernel_rfl) args w
theorem Ybaf.guard (name : String) (w : World) : (FmtStop.guard name).run Ybaf.prog w = .ok () w := by kernel_rfl
def Ybaf.shape9 : List UInt8 := [12, 6, 0, 0, 0, 0, 0, 0, 0, 115, 116, 114, 105, 110, 103]
theorem Ybaf.op9_115w (name : String) (x : ByteArray) (w : World) : (FmtStop.operand name true 115 false (.iface 9 (.string x))).run Ybaf.prog w = .ok (Ybaf.shape9, FmtStop.pack x.data.toList) w := by kernel_rfl
theorem Ybaf.op9_115 (name : String) (x : ByteArray) (w : World) : (FmtStop.operand name false 115 false (.iface 9 (.string x))).run Ybaf.prog w = .ok (Ybaf.shape9, FmtStop.pack x.data.toList) w := by kernel_rfl
theorem Ybaf.str9 (w : World) : (typeStr 9).run Ybaf.prog w = .ok "string" w := by kernel_rfl
theorem Ybaf.ptr83 (w : World) : (FmtStop.ptrTo "errors.errorString").run Ybaf.prog w = .ok 83 w := by kernel_rfl
theorem Ybaf.isError83 (w : World) : (FmtDoors.textMethod 83 "Error").run Ybaf.prog w = .ok true w := by kernel_rfl
def Ybaf.formA : ByteArray := ⟨#[100, 101, 118, 105, 99, 101, 32, 37, 115, 32, 104, 97, 115, 32, 109, 97, 114, 107, 115, 32, 97, 110, 100, 32, 110, 111, 32, 99, 111, 118, 101, 114, 97, 103, 101]⟩
theorem Ybaf.fmtA : FmtStop.printed? Ybaf.formA 1 = some [(0, 115, false)] := by kernel_rfl
theorem Ybaf.fmtAr (w : World) : (FmtDoors.printed Ybaf.formA 1).run Ybaf.prog w = .ok [(0, 115, false)] w := by kernel_rfl
def Ybaf.formB : ByteArray := ⟨#[100, 101, 118, 105, 99, 101, 32, 37, 115, 32, 105, 115, 32, 99, 111, 118, 101, 114, 101, 100, 32, 116, 119, 105, 99, 101]⟩
theorem Ybaf.fmtB : FmtStop.printed? Ybaf.formB 1 = some [(0, 115, false)] := by kernel_rfl
theorem Ybaf.fmtBr (w : World) : (FmtDoors.printed Ybaf.formB 1).run Ybaf.prog w = .ok [(0, 115, false)] w := by kernel_rfl
def Ybaf.formC : ByteArray := ⟨#[116, 104, 101, 32, 109, 97, 114, 107, 115, 32, 111, 102, 32, 100, 101, 118, 105, 99, 101, 32, 37, 115, 32, 100, 111, 32, 110, 111, 116, 32, 114, 117, 110, 32, 117, 112, 32, 116, 111, 32, 105, 116, 115, 32, 99, 111, 118, 101, 114, 97, 103, 101, 32, 105, 110, 32, 111, 114, 100, 101, 114]⟩
theorem Ybaf.fmtC : FmtStop.printed? Ybaf.formC 1 = some [(0, 115, false)] := by kernel_rfl
theorem Ybaf.fmtCr (w : World) : (FmtDoors.printed Ybaf.formC 1).run Ybaf.prog w = .ok [(0, 115, false)] w := by kernel_rfl
theorem Ybaf.elem83 (w : World) : (elemOf 83).run Ybaf.prog w = .ok 85 w := by kernel_rfl
end Go.Proofs
