/- Closed facts for a walk over the two stopped fronts of fmt, turned to this program after the kit's worked facts. -/
import Derived.Test.Qxb6613618aFmtRows
import Derived.Stop.CallBack
import Derived.Stop.IfaceNil
import GoSem.ClaimData
import Derived.WalkKit
namespace Go.Proofs.Qxb6613618aFmt
open Go.Extern.Stop Go.Stop Go.Extern

theorem f_call16 (args : Array Value) (w : World) : (callFunc 16 args).run Tryf.prog w = ((FmtStop.errorf #[9, 52] #[36] args).run Tryf.prog w).andThen fun v w' => .ok (.value v) w' :=
  run_callFunc_extern Tryf.func16 (by kernel_rfl) (by kernel_rfl) (by kernel_rfl) (by kernel_rfl) args w
theorem f_call35 (args : Array Value) (w : World) : (callFunc 35 args).run Tryf.prog w = ((FmtStop.sprintf #[9, 52] #[9] args).run Tryf.prog w).andThen fun v w' => .ok (.value v) w' :=
  run_callFunc_extern Tryf.func35 (by kernel_rfl) (by kernel_rfl) (by kernel_rfl) (by kernel_rfl) args w
theorem f_guard (name : String) (w : World) : (FmtStop.guard name).run Tryf.prog w = .ok () w := by kernel_rfl

theorem f_fmt1 : FmtStop.printed? ⟨#[37, 115, 32, 97, 99, 116, 105, 111, 110, 32, 37, 113, 32, 105, 115, 32, 97, 108, 114, 101, 97, 100, 121, 32, 111, 102, 102, 101, 114, 101, 100, 32, 105, 110, 32, 99, 97, 116, 97, 108, 111, 103, 32, 37, 113, 32, 37, 115]⟩ 4 = some [(0, 115, false), (1, 113, false), (2, 113, false), (3, 115, false)] := by kernel_rfl
theorem f_fmt1r (w : World) : (FmtDoors.printed ⟨#[37, 115, 32, 97, 99, 116, 105, 111, 110, 32, 37, 113, 32, 105, 115, 32, 97, 108, 114, 101, 97, 100, 121, 32, 111, 102, 102, 101, 114, 101, 100, 32, 105, 110, 32, 99, 97, 116, 97, 108, 111, 103, 32, 37, 113, 32, 37, 115]⟩ 4).run Tryf.prog w = .ok [(0, 115, false), (1, 113, false), (2, 113, false), (3, 115, false)] w := by kernel_rfl
theorem f_fmt2 : FmtStop.printed? ⟨#[97, 99, 116, 105, 111, 110, 95, 116, 121, 112, 101, 32, 111, 102, 32, 37, 113, 32, 105, 115, 32, 37, 115, 32, 97, 110, 100, 32, 99, 97, 110, 110, 111, 116, 32, 99, 104, 97, 110, 103, 101, 32, 116, 111, 32, 37, 115]⟩ 3 = some [(0, 113, false), (1, 115, false), (2, 115, false)] := by kernel_rfl
theorem f_fmt2r (w : World) : (FmtDoors.printed ⟨#[97, 99, 116, 105, 111, 110, 95, 116, 121, 112, 101, 32, 111, 102, 32, 37, 113, 32, 105, 115, 32, 37, 115, 32, 97, 110, 100, 32, 99, 97, 110, 110, 111, 116, 32, 99, 104, 97, 110, 103, 101, 32, 116, 111, 32, 37, 115]⟩ 3).run Tryf.prog w = .ok [(0, 113, false), (1, 115, false), (2, 115, false)] w := by kernel_rfl
theorem f_fmt3 : FmtStop.printed? ⟨#[98, 121, 32, 99, 111, 110, 110, 101, 99, 116, 111, 114, 32, 37, 113]⟩ 1 = some [(0, 113, false)] := by kernel_rfl
theorem f_fmt3r (w : World) : (FmtDoors.printed ⟨#[98, 121, 32, 99, 111, 110, 110, 101, 99, 116, 111, 114, 32, 37, 113]⟩ 1).run Tryf.prog w = .ok [(0, 113, false)] w := by kernel_rfl

def sh9 : List UInt8 := [12, 6, 0, 0, 0, 0, 0, 0, 0, 115, 116, 114, 105, 110, 103]
theorem f_op9_115w (name : String) (x : ByteArray) (w : World) : (FmtStop.operand name true 115 false (.iface 9 (.string x))).run Tryf.prog w = .ok (sh9, FmtStop.pack x.data.toList) w := by kernel_rfl
theorem f_op9_113w (name : String) (x : ByteArray) (w : World) : (FmtStop.operand name true 113 false (.iface 9 (.string x))).run Tryf.prog w = .ok (sh9, FmtStop.pack x.data.toList) w := by kernel_rfl
theorem f_op9_113 (name : String) (x : ByteArray) (w : World) : (FmtStop.operand name false 113 false (.iface 9 (.string x))).run Tryf.prog w = .ok (sh9, FmtStop.pack x.data.toList) w := by kernel_rfl
theorem f_strict9 (name : String) (x : ByteArray) (w : World) : (FmtStop.strict name (.iface 9 (.string x))).run Tryf.prog w = .ok (sh9, FmtStop.pack x.data.toList) w := by kernel_rfl
def sh27 : List UInt8 := [12, 12, 0, 0, 0, 0, 0, 0, 0, 97, 99, 116, 105, 111, 110, 46, 83, 99, 111, 112, 101]
theorem f_op27_115w (name : String) (x : ByteArray) (w : World) : (FmtStop.operand name true 115 false (.iface 27 (.string x))).run Tryf.prog w = .ok (sh27, FmtStop.pack x.data.toList) w := by kernel_rfl
theorem f_strict27 (name : String) (x : ByteArray) (w : World) : (FmtStop.strict name (.iface 27 (.string x))).run Tryf.prog w = .ok (sh27, FmtStop.pack x.data.toList) w := by kernel_rfl
theorem f_ptr55 (w : World) : (FmtStop.ptrTo "errors.errorString").run Tryf.prog w = .ok 55 w := by kernel_rfl
theorem f_elem55 (w : World) : (elemOf 55).run Tryf.prog w = .ok 57 w := by kernel_rfl
theorem f_isError55 (w : World) : (FmtDoors.textMethod 55 "Error").run Tryf.prog w = .ok true w := by kernel_rfl
end Go.Proofs.Qxb6613618aFmt
