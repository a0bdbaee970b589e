/-
  DERIVED. Closed facts on type assertions and on equality of interface values.
-/
import Derived.Test.YbulkegvaFmtProg
import Derived.WalkKit
import Derived.Stop.IfaceNil
import Derived.Laws.Cover2
namespace Go.Proofs

theorem Ybaf.asNil_9 (w : World) : (Instr.typeAssert .nilIface 20 9 true).run Ybaf.prog w = .ok (.tuple #[.string ⟨#[]⟩, .bool false]) w := by kernel_rfl
attribute [local go_sem] Ybaf.asNil_9
theorem Ybaf.as9_9 (v : Value) (w : World) : (Instr.typeAssert (.iface 9 v) 20 9 true).run Ybaf.prog w = .ok (.tuple #[v, .bool true]) w := by kernel_rfl
attribute [local go_sem] Ybaf.as9_9
theorem Ybaf.as4_9 (v : Value) (w : World) : (Instr.typeAssert (.iface 4 v) 20 9 true).run Ybaf.prog w = .ok (.tuple #[.string ⟨#[]⟩, .bool false]) w := by kernel_rfl
attribute [local go_sem] Ybaf.as4_9
theorem Ybaf.as23_9 (v : Value) (w : World) : (Instr.typeAssert (.iface 23 v) 20 9 true).run Ybaf.prog w = .ok (.tuple #[.string ⟨#[]⟩, .bool false]) w := by kernel_rfl
attribute [local go_sem] Ybaf.as23_9
theorem Ybaf.as24_9 (v : Value) (w : World) : (Instr.typeAssert (.iface 24 v) 20 9 true).run Ybaf.prog w = .ok (.tuple #[.string ⟨#[]⟩, .bool false]) w := by kernel_rfl
attribute [local go_sem] Ybaf.as24_9
theorem Ybaf.as72_9 (v : Value) (w : World) : (Instr.typeAssert (.iface 72 v) 20 9 true).run Ybaf.prog w = .ok (.tuple #[.string ⟨#[]⟩, .bool false]) w := by kernel_rfl
attribute [local go_sem] Ybaf.as72_9
theorem Ybaf.asNil_4 (w : World) : (Instr.typeAssert .nilIface 20 4 true).run Ybaf.prog w = .ok (.tuple #[.bool false, .bool false]) w := by kernel_rfl
attribute [local go_sem] Ybaf.asNil_4
theorem Ybaf.as9_4 (v : Value) (w : World) : (Instr.typeAssert (.iface 9 v) 20 4 true).run Ybaf.prog w = .ok (.tuple #[.bool false, .bool false]) w := by kernel_rfl
attribute [local go_sem] Ybaf.as9_4
theorem Ybaf.as4_4 (v : Value) (w : World) : (Instr.typeAssert (.iface 4 v) 20 4 true).run Ybaf.prog w = .ok (.tuple #[v, .bool true]) w := by kernel_rfl
attribute [local go_sem] Ybaf.as4_4
theorem Ybaf.as23_4 (v : Value) (w : World) : (Instr.typeAssert (.iface 23 v) 20 4 true).run Ybaf.prog w = .ok (.tuple #[.bool false, .bool false]) w := by kernel_rfl
attribute [local go_sem] Ybaf.as23_4
theorem Ybaf.as24_4 (v : Value) (w : World) : (Instr.typeAssert (.iface 24 v) 20 4 true).run Ybaf.prog w = .ok (.tuple #[.bool false, .bool false]) w := by kernel_rfl
attribute [local go_sem] Ybaf.as24_4
theorem Ybaf.as72_4 (v : Value) (w : World) : (Instr.typeAssert (.iface 72 v) 20 4 true).run Ybaf.prog w = .ok (.tuple #[.bool false, .bool false]) w := by kernel_rfl
attribute [local go_sem] Ybaf.as72_4
theorem Ybaf.asNil_23 (w : World) : (Instr.typeAssert .nilIface 20 23 true).run Ybaf.prog w = .ok (.tuple #[.map none, .bool false]) w := by kernel_rfl
attribute [local go_sem] Ybaf.asNil_23
theorem Ybaf.as9_23 (v : Value) (w : World) : (Instr.typeAssert (.iface 9 v) 20 23 true).run Ybaf.prog w = .ok (.tuple #[.map none, .bool false]) w := by kernel_rfl
attribute [local go_sem] Ybaf.as9_23
theorem Ybaf.as4_23 (v : Value) (w : World) : (Instr.typeAssert (.iface 4 v) 20 23 true).run Ybaf.prog w = .ok (.tuple #[.map none, .bool false]) w := by kernel_rfl
attribute [local go_sem] Ybaf.as4_23
theorem Ybaf.as23_23 (v : Value) (w : World) : (Instr.typeAssert (.iface 23 v) 20 23 true).run Ybaf.prog w = .ok (.tuple #[v, .bool true]) w := by kernel_rfl
attribute [local go_sem] Ybaf.as23_23
theorem Ybaf.as24_23 (v : Value) (w : World) : (Instr.typeAssert (.iface 24 v) 20 23 true).run Ybaf.prog w = .ok (.tuple #[.map none, .bool false]) w := by kernel_rfl
attribute [local go_sem] Ybaf.as24_23
theorem Ybaf.as72_23 (v : Value) (w : World) : (Instr.typeAssert (.iface 72 v) 20 23 true).run Ybaf.prog w = .ok (.tuple #[.map none, .bool false]) w := by kernel_rfl
attribute [local go_sem] Ybaf.as72_23
theorem Ybaf.asNil_24 (w : World) : (Instr.typeAssert .nilIface 20 24 true).run Ybaf.prog w = .ok (.tuple #[.slice none 0 0, .bool false]) w := by kernel_rfl
attribute [local go_sem] Ybaf.asNil_24
theorem Ybaf.as9_24 (v : Value) (w : World) : (Instr.typeAssert (.iface 9 v) 20 24 true).run Ybaf.prog w = .ok (.tuple #[.slice none 0 0, .bool false]) w := by kernel_rfl
attribute [local go_sem] Ybaf.as9_24
theorem Ybaf.as4_24 (v : Value) (w : World) : (Instr.typeAssert (.iface 4 v) 20 24 true).run Ybaf.prog w = .ok (.tuple #[.slice none 0 0, .bool false]) w := by kernel_rfl
attribute [local go_sem] Ybaf.as4_24
theorem Ybaf.as23_24 (v : Value) (w : World) : (Instr.typeAssert (.iface 23 v) 20 24 true).run Ybaf.prog w = .ok (.tuple #[.slice none 0 0, .bool false]) w := by kernel_rfl
attribute [local go_sem] Ybaf.as23_24
theorem Ybaf.as24_24 (v : Value) (w : World) : (Instr.typeAssert (.iface 24 v) 20 24 true).run Ybaf.prog w = .ok (.tuple #[v, .bool true]) w := by kernel_rfl
attribute [local go_sem] Ybaf.as24_24
theorem Ybaf.as72_24 (v : Value) (w : World) : (Instr.typeAssert (.iface 72 v) 20 24 true).run Ybaf.prog w = .ok (.tuple #[.slice none 0 0, .bool false]) w := by kernel_rfl
attribute [local go_sem] Ybaf.as72_24
theorem Ybaf.as37_37 (v : Value) (w : World) : (Instr.typeAssert (.iface 37 v) 33 37 true).run Ybaf.prog w = .ok (.tuple #[v, .bool true]) w := by kernel_rfl
attribute [local go_sem] Ybaf.as37_37
theorem Ybaf.isIface20 : Ybaf.prog.isIface 20 = true := by kernel_rfl
attribute [local go_sem] Ybaf.isIface20
theorem Ybaf.isIface33 : Ybaf.prog.isIface 33 = true := by kernel_rfl
attribute [local go_sem] Ybaf.isIface33
theorem Ybaf.eqStr (s : ByteArray) (w : World) : (binOp .eql 20 (.iface 9 (.string s)) (.iface 9 (.string s))).run Ybaf.prog w = .ok (.bool (s == s)) w := by kernel_rfl
theorem Ybaf.eqBool (b : Bool) (w : World) : (binOp .eql 20 (.iface 4 (.bool b)) (.iface 4 (.bool b))).run Ybaf.prog w = .ok (.bool (b == b)) w := by kernel_rfl
theorem Ybaf.eqFlt (x : Nat) (w : World) : (binOp .eql 20 (.iface 72 (.float .f64 x)) (.iface 72 (.float .f64 x))).run Ybaf.prog w = .ok (.bool (Op.floatEq .f64 x x)) w := by kernel_rfl
theorem Ybaf.eqNil (w : World) : (binOp .eql 20 .nilIface .nilIface).run Ybaf.prog w = .ok (.bool true) w := by kernel_rfl
end Go.Proofs
