/-
  The closed facts for a walk over fmt.Sprintf, a stop that calls its operands' methods: each by the kernel's own evaluation.
-/
import Derived.Test.Qxb6628923aFmtRows
import Derived.WalkKit
import Derived.WalkSpells
import Derived.WalkLawsBesides
import Derived.Stop.CallBack
import Derived.Stop.IfaceNil
namespace Go.Proofs.Qxb6628923aFmt
open Go.RowKit Go.Extern.Stop Go.Stop Go.Extern

theorem call12 (args : Array Value) (w : World) : (callFunc 12 args).run Tryf.prog w = (FmtCalls.sprintf #[9, 44] #[9] args).run Tryf.prog w :=
  run_callFunc_next Tryf.func12 (by kernel_rfl) (by kernel_rfl) (by kernel_rfl) args w
theorem guardF (name : String) (w : World) : (FmtStop.guard name).run Tryf.prog w = .ok () w := by kernel_rfl
theorem nextTurns : Extern.next FmtCalls.turnsRow = some (FmtCalls.begun #[] #[]) := by kernel_rfl
/-- The two formats. -/
def fmtA : ByteArray := ⟨#[109, 117, 115, 116, 32, 98, 101, 32, 97, 32, 115, 105, 110, 103, 108, 101, 32, 118, 97, 108, 117, 101]⟩
def fmtB : ByteArray := ⟨#[37, 113, 32, 105, 115, 32, 110, 111, 116, 32, 37, 115, 59, 32, 116, 104, 101, 32, 37, 115, 32, 97, 114, 101, 32, 37, 115]⟩
theorem printedA : FmtStop.printed? ⟨#[109, 117, 115, 116, 32, 98, 101, 32, 97, 32, 115, 105, 110, 103, 108, 101, 32, 118, 97, 108, 117, 101]⟩ 0 = some [] := by kernel_rfl
theorem printedB : FmtStop.printed? ⟨#[37, 113, 32, 105, 115, 32, 110, 111, 116, 32, 37, 115, 59, 32, 116, 104, 101, 32, 37, 115, 32, 97, 114, 101, 32, 37, 115]⟩ 4 = some [(0, 113, false), (1, 115, false), (2, 115, false), (3, 115, false)] := by kernel_rfl
theorem act9_113 (name : String) (x : Value) (w : World) : (FmtCalls.act name false 113 false (.iface 9 x)).run Tryf.prog w = .ok (.closed false) w := by kernel_rfl
theorem act9_115 (name : String) (x : Value) (w : World) : (FmtCalls.act name false 115 false (.iface 9 x)).run Tryf.prog w = .ok (.closed false) w := by kernel_rfl
def shape9 : List UInt8 := [12, 6, 0, 0, 0, 0, 0, 0, 0, 115, 116, 114, 105, 110, 103]
theorem op9_113 (name : String) (x : ByteArray) (w : World) : (FmtStop.operand name false 113 false (.iface 9 (.string x))).run Tryf.prog w = .ok (shape9, FmtStop.pack x.data.toList) w := by kernel_rfl
theorem op9_115 (name : String) (x : ByteArray) (w : World) : (FmtStop.operand name false 115 false (.iface 9 (.string x))).run Tryf.prog w = .ok (shape9, FmtStop.pack x.data.toList) w := by kernel_rfl
end Go.Proofs.Qxb6628923aFmt
