/-
  DERIVED. The closed facts that the walks over fmt.Sprintf's stop want, typed by hand after the shape of the worked texts.
-/
import Derived.Test.YbulkegvaFmtProg
import Derived.Stop.CallBack
import Derived.Stop.IfaceNil
import GoSem.ClaimData
namespace Go.Proofs
open Go.Extern.Stop Go.Stop Go.Extern

theorem Ybaf.call13 (args : Array Value) (w : World) : (callFunc 13 args).run Ybaf.prog w = (FmtCalls.sprintf #[9, 24] #[9] args).run Ybaf.prog w :=
  run_callFunc_next Ybaf.func13 (by kernel_rfl) (by kernel_rfl) (by kernel_rfl) args w
attribute [local go_sem] Ybaf.call13
theorem Ybaf.guard (name : String) (w : World) : (FmtStop.guard name).run Ybaf.prog w = .ok () w := by kernel_rfl
attribute [local go_sem] Ybaf.guard
theorem Ybaf.nextTurns : Extern.next FmtCalls.turnsRow = some (FmtCalls.begun #[] #[]) := by kernel_rfl
theorem Ybaf.nextReturned : Extern.next FmtCalls.returnedRow = some (FmtCalls.returned #[] #[]) := by kernel_rfl

theorem Ybaf.fmt0 : FmtStop.printed? ⟨#[109, 101, 116, 97, 100, 97, 116, 97, 46, 111, 119, 110, 101, 114, 82, 101, 102, 101, 114, 101, 110, 99, 101, 115, 91, 37, 100, 93]⟩ 1 = some [(0, 100, false)] := by kernel_rfl
attribute [local go_sem] Ybaf.fmt0
theorem Ybaf.fmt0r (w : World) : (FmtDoors.printed ⟨#[109, 101, 116, 97, 100, 97, 116, 97, 46, 111, 119, 110, 101, 114, 82, 101, 102, 101, 114, 101, 110, 99, 101, 115, 91, 37, 100, 93]⟩ 1).run Ybaf.prog w = .ok [(0, 100, false)] w := by kernel_rfl
attribute [local go_sem] Ybaf.fmt0r
theorem Ybaf.fmt1 : FmtStop.printed? ⟨#[37, 115, 32, 105, 115, 32, 110, 111, 116, 32, 97, 32, 74, 83, 79, 78, 32, 97, 114, 114, 97, 121]⟩ 1 = some [(0, 115, false)] := by kernel_rfl
attribute [local go_sem] Ybaf.fmt1
theorem Ybaf.fmt1r (w : World) : (FmtDoors.printed ⟨#[37, 115, 32, 105, 115, 32, 110, 111, 116, 32, 97, 32, 74, 83, 79, 78, 32, 97, 114, 114, 97, 121]⟩ 1).run Ybaf.prog w = .ok [(0, 115, false)] w := by kernel_rfl
attribute [local go_sem] Ybaf.fmt1r
theorem Ybaf.fmt2 : FmtStop.printed? ⟨#[37, 115, 32, 105, 115, 32, 110, 111, 116, 32, 97, 32, 115, 116, 114, 105, 110, 103]⟩ 1 = some [(0, 115, false)] := by kernel_rfl
attribute [local go_sem] Ybaf.fmt2
theorem Ybaf.fmt2r (w : World) : (FmtDoors.printed ⟨#[37, 115, 32, 105, 115, 32, 110, 111, 116, 32, 97, 32, 115, 116, 114, 105, 110, 103]⟩ 1).run Ybaf.prog w = .ok [(0, 115, false)] w := by kernel_rfl
attribute [local go_sem] Ybaf.fmt2r
theorem Ybaf.fmt3 : FmtStop.printed? ⟨#[37, 115, 32, 105, 115, 32, 110, 111, 116, 32, 97, 32, 98, 111, 111, 108, 101, 97, 110]⟩ 1 = some [(0, 115, false)] := by kernel_rfl
attribute [local go_sem] Ybaf.fmt3
theorem Ybaf.fmt3r (w : World) : (FmtDoors.printed ⟨#[37, 115, 32, 105, 115, 32, 110, 111, 116, 32, 97, 32, 98, 111, 111, 108, 101, 97, 110]⟩ 1).run Ybaf.prog w = .ok [(0, 115, false)] w := by kernel_rfl
attribute [local go_sem] Ybaf.fmt3r
theorem Ybaf.fmt4 : FmtStop.printed? ⟨#[37, 115, 32, 105, 115, 32, 110, 111, 116, 32, 97, 32, 74, 83, 79, 78, 32, 111, 98, 106, 101, 99, 116]⟩ 1 = some [(0, 115, false)] := by kernel_rfl
attribute [local go_sem] Ybaf.fmt4
theorem Ybaf.fmt4r (w : World) : (FmtDoors.printed ⟨#[37, 115, 32, 105, 115, 32, 110, 111, 116, 32, 97, 32, 74, 83, 79, 78, 32, 111, 98, 106, 101, 99, 116]⟩ 1).run Ybaf.prog w = .ok [(0, 115, false)] w := by kernel_rfl
attribute [local go_sem] Ybaf.fmt4r

def Ybaf.shape3 : List UInt8 := [5, 3, 0, 0, 0, 0, 0, 0, 0, 105, 110, 116]
theorem Ybaf.act3_100 (name : String) (x : Value) (w : World) : (FmtCalls.act name false 100 false (.iface 3 x)).run Ybaf.prog w = .ok (.closed false) w := by kernel_rfl
attribute [local go_sem] Ybaf.act3_100
theorem Ybaf.op3_100 (name : String) (x : Int) (w : World) : (FmtStop.operand name false 100 false (.iface 3 (.int .i64 x))).run Ybaf.prog w = .ok (Ybaf.shape3, Go.Extern.Stop.digits 8 (x % 2 ^ 64).toNat) w := by kernel_rfl
attribute [local go_sem] Ybaf.op3_100
theorem Ybaf.str3 (w : World) : (typeStr 3).run Ybaf.prog w = .ok "int" w := by kernel_rfl
attribute [local go_sem] Ybaf.str3

def Ybaf.shape9 : List UInt8 := [12, 6, 0, 0, 0, 0, 0, 0, 0, 115, 116, 114, 105, 110, 103]
theorem Ybaf.act9_115 (name : String) (x : Value) (w : World) : (FmtCalls.act name false 115 false (.iface 9 x)).run Ybaf.prog w = .ok (.closed false) w := by kernel_rfl
attribute [local go_sem] Ybaf.act9_115
theorem Ybaf.op9_115 (name : String) (x : ByteArray) (w : World) : (FmtStop.operand name false 115 false (.iface 9 (.string x))).run Ybaf.prog w = .ok (Ybaf.shape9, FmtStop.pack x.data.toList) w := by kernel_rfl
attribute [local go_sem] Ybaf.op9_115
theorem Ybaf.str9 (w : World) : (typeStr 9).run Ybaf.prog w = .ok "string" w := by kernel_rfl
attribute [local go_sem] Ybaf.str9
end Go.Proofs
