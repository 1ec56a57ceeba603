/-
  THE CLOSED FACTS FOR THE WALKS OVER fmt.Sprintf's STOP IN THIS DUMP (after the guide's LevelsFmt.lean): each by the kernel's own reckoning.
-/
import Derived.Test.YbulkdygFmtRows
import Derived.Stop.CallBack
import Derived.Stop.IfaceNil
import Derived.WalkKit
import Derived.WalkSpells
namespace Go.Proofs.YbulkdygFmt
open Go.Extern.Stop Go.Stop Go.Extern

@[go_sem] theorem Ybaf.call13 (args : Array Value) (w : World) : (callFunc 13 args).run Ybaf.prog w = (FmtCalls.sprintf #[9, 66] #[9] args).run Ybaf.prog w :=
  run_callFunc_next Ybaf.func13 (by kernel_rfl) (by kernel_rfl) (by kernel_rfl) args w

@[go_sem] theorem Ybaf.guard (name : String) (w : World) : (FmtStop.guard name).run Ybaf.prog w = .ok () w := by kernel_rfl
theorem Ybaf.nextTurns : Extern.next FmtCalls.turnsRow = some (FmtCalls.begun #[] #[]) := by kernel_rfl

/-- The three formats. -/
def fNeg : ByteArray := ⟨#[37, 115, 32, 37, 100, 32, 105, 115, 32, 110, 101, 103, 97, 116, 105, 118, 101]⟩
def fId : ByteArray := ⟨#[116, 121, 112, 101, 32, 105, 100, 32, 37, 100, 32, 105, 115, 32, 97, 108, 114, 101, 97, 100, 121, 32, 117, 115, 101, 100]⟩
def fName : ByteArray := ⟨#[116, 121, 112, 101, 32, 110, 97, 109, 101, 32, 37, 113, 32, 105, 115, 32, 97, 108, 114, 101, 97, 100, 121, 32, 117, 115, 101, 100]⟩
@[go_sem] theorem Ybaf.fmt0 : FmtStop.printed? ⟨#[37, 115, 32, 37, 100, 32, 105, 115, 32, 110, 101, 103, 97, 116, 105, 118, 101]⟩ 2 = some [(0, 115, false), (1, 100, false)] := by kernel_rfl
@[go_sem] theorem Ybaf.fmt1 : FmtStop.printed? ⟨#[116, 121, 112, 101, 32, 105, 100, 32, 37, 100, 32, 105, 115, 32, 97, 108, 114, 101, 97, 100, 121, 32, 117, 115, 101, 100]⟩ 1 = some [(0, 100, false)] := by kernel_rfl
@[go_sem] theorem Ybaf.fmt2 : FmtStop.printed? ⟨#[116, 121, 112, 101, 32, 110, 97, 109, 101, 32, 37, 113, 32, 105, 115, 32, 97, 108, 114, 101, 97, 100, 121, 32, 117, 115, 101, 100]⟩ 1 = some [(0, 113, false)] := by kernel_rfl

def Ybaf.shape9 : List UInt8 := [12, 6, 0, 0, 0, 0, 0, 0, 0, 115, 116, 114, 105, 110, 103]
def Ybaf.shape3 : List UInt8 := [5, 3, 0, 0, 0, 0, 0, 0, 0, 105, 110, 116]
@[go_sem] theorem Ybaf.act9_115 (name : String) (x : Value) (w : World) : (FmtCalls.act name false 115 false (.iface 9 x)).run Ybaf.prog w = .ok (.closed false) w := by kernel_rfl
@[go_sem] theorem Ybaf.op9_115 (name : String) (s : ByteArray) (w : World) : (FmtStop.operand name false 115 false (.iface 9 (.string s))).run Ybaf.prog w = .ok (Ybaf.shape9, FmtStop.pack s.data.toList) w := by kernel_rfl
@[go_sem] theorem Ybaf.act9_113 (name : String) (x : Value) (w : World) : (FmtCalls.act name false 113 false (.iface 9 x)).run Ybaf.prog w = .ok (.closed false) w := by kernel_rfl
@[go_sem] theorem Ybaf.op9_113 (name : String) (s : ByteArray) (w : World) : (FmtStop.operand name false 113 false (.iface 9 (.string s))).run Ybaf.prog w = .ok (Ybaf.shape9, FmtStop.pack s.data.toList) w := by kernel_rfl
@[go_sem] theorem Ybaf.act3_100 (name : String) (x : Value) (w : World) : (FmtCalls.act name false 100 false (.iface 3 x)).run Ybaf.prog w = .ok (.closed false) w := by kernel_rfl
@[go_sem] theorem Ybaf.op3_100 (name : String) (x : Int) (w : World) : (FmtStop.operand name false 100 false (.iface 3 (.int .i64 x))).run Ybaf.prog w = .ok (Ybaf.shape3, Go.Extern.Stop.digits 8 (x % 2 ^ 64).toNat) w := by kernel_rfl
end Go.Proofs.YbulkdygFmt
