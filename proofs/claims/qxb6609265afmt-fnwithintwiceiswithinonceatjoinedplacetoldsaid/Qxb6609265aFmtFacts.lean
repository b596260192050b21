/- THE CLOSED FACTS FOR A WALK OVER fmt's STOPPED FRONT at this program, after the guide's worked facts (WrapopFmt). -/
import Derived.Test.Qxb6609265aFmtRows
import Derived.Stop.CallBack
import Derived.Stop.IfaceNil
import GoSem.ClaimData
namespace Go.Proofs
open Go.Extern.Stop Go.Stop Go.Extern

@[go_sem] theorem Tryf.call17 (args : Array Value) (w : World) : (callFunc 17 args).run Tryf.prog w = (FmtCalls.errorf #[9, 48] #[33] args).run Tryf.prog w :=
  run_callFunc_next Tryf.func17 (by kernel_rfl) (by kernel_rfl) (by kernel_rfl) args w
@[go_sem] theorem Tryf.guard (name : String) (w : World) : (FmtStop.guard name).run Tryf.prog w = .ok () w := by kernel_rfl
theorem Tryf.nextTurns : Extern.next FmtCalls.turnsRow = some (FmtCalls.begun #[] #[]) := by kernel_rfl
@[go_sem] theorem Tryf.fmt0 : FmtStop.printed? ⟨#[37, 115, 58, 32, 37, 119]⟩ 2 = some [(0, 115, false), (1, 119, false)] := by kernel_rfl
@[go_sem] theorem Tryf.fmt0r (w : World) : (FmtDoors.printed ⟨#[37, 115, 58, 32, 37, 119]⟩ 2).run Tryf.prog w = .ok [(0, 115, false), (1, 119, false)] w := by kernel_rfl
def Tryf.shape9 : List UInt8 := [12, 6, 0, 0, 0, 0, 0, 0, 0, 115, 116, 114, 105, 110, 103]
@[go_sem] theorem Tryf.act9_115w (name : String) (x : Value) (w : World) : (FmtCalls.act name true 115 false (.iface 9 x)).run Tryf.prog w = .ok (.closed true) w := by kernel_rfl
@[go_sem] theorem Tryf.op9_115w (name : String) (x : ByteArray) (w : World) : (FmtStop.operand name true 115 false (.iface 9 (.string x))).run Tryf.prog w = .ok (Tryf.shape9, FmtStop.pack x.data.toList) w := by kernel_rfl
@[go_sem] theorem Tryf.act43_119w (name : String) (x : Value) (w : World) : (FmtCalls.act name true 119 false (.iface 43 x)).run Tryf.prog w = .ok (.closed true) w := by kernel_rfl
@[go_sem] theorem Tryf.act49_119w (name : String) (x : Value) (w : World) : (FmtCalls.act name true 119 false (.iface 49 x)).run Tryf.prog w = .ok (.closed true) w := by kernel_rfl
@[go_sem] theorem Tryf.isError43 (w : World) : (FmtDoors.textMethod 43 "Error").run Tryf.prog w = .ok true w := by kernel_rfl
@[go_sem] theorem Tryf.isError49 (w : World) : (FmtDoors.textMethod 49 "Error").run Tryf.prog w = .ok true w := by kernel_rfl
@[go_sem] theorem Tryf.ptr43 (w : World) : (FmtStop.ptrTo "errors.errorString").run Tryf.prog w = .ok 43 w := by kernel_rfl
@[go_sem] theorem Tryf.ptr49 (w : World) : (FmtStop.ptrTo "fmt.wrapError").run Tryf.prog w = .ok 49 w := by kernel_rfl
@[go_sem] theorem Tryf.elem49 (w : World) : (elemOf 49).run Tryf.prog w = .ok 77 w := by kernel_rfl
/-- An error of errors.New's make AS AN OPERAND: it reads as its type's name and its text, out of memory. -/
theorem Tryf.opPlain43 : ∃ l : List UInt8, ∀ (name : String) (a : Addr) (s : ByteArray) (w : World), w.cell? a = some (.string s) →
    (FmtStop.operand name true 119 false (.iface 43 (.pointer (some a)))).run Tryf.prog w = .ok (l, s.data.toList) w := by
  refine ⟨14 :: FmtStop.pack Tryf.t43.str.toUTF8.data.toList, fun name a s w hc => ?_⟩
  have h1 : (typeStr 43).run Tryf.prog w = .ok Tryf.t43.str w := by kernel_rfl
  have d2 : Tryf.t43.desc = .pointer 45 := rfl
  have d3 : Tryf.t45.desc = .named "errors.errorString" 44 := rfl
  simp [FmtStop.operand, h1, d2, d3, run_load, hc]
/-- An error of fmt.Errorf's make likewise. -/
theorem Tryf.opPlain49 : ∃ l : List UInt8, ∀ (name : String) (a : Addr) (s : ByteArray) (w : World), w.cell? a = some (.string s) →
    (FmtStop.operand name true 119 false (.iface 49 (.pointer (some a)))).run Tryf.prog w = .ok (l, s.data.toList) w := by
  refine ⟨14 :: FmtStop.pack Tryf.t49.str.toUTF8.data.toList, fun name a s w hc => ?_⟩
  have h1 : (typeStr 49).run Tryf.prog w = .ok Tryf.t49.str w := by kernel_rfl
  have d2 : Tryf.t49.desc = .pointer 77 := rfl
  have d3 : Tryf.t77.desc = .named "fmt.wrapError" 76 := rfl
  simp [FmtStop.operand, h1, d2, d3, run_load, hc]
end Go.Proofs
