/-
  DERIVED. Two references that are one: '!=' says no.
-/
import Derived.Test.YbulkegvaFmtLawC
import Derived.Laws.StructEq
namespace Go.Proofs.YbulkegvaFmt
open Go.RowKit

theorem Ybaf.struct46 : Ybaf.prog.underlying 46 = some (.struct (Ybaf.prog.fieldsOf 46)) := by kernel_rfl
theorem Ybaf.stood46 : Ybaf.prog.stoodInHeld 46 = false := by kernel_rfl
theorem Ybaf.guardTy46 : Ybaf.prog.eqGuardType Ybaf.prog.depth 46 = false := by kernel_rfl

def refV (a b c d : ByteArray) (e : Bool) : Array Value := #[.string a, .string b, .string c, .string d, .bool e]
theorem part0 (a b c d : ByteArray) (e : Bool) (w : World) : (part 9 (refV a b c d e) 0).run Ybaf.prog w = .ok (.string a) w := by kernel_rfl
theorem part1 (a b c d : ByteArray) (e : Bool) (w : World) : (part 9 (refV a b c d e) 1).run Ybaf.prog w = .ok (.string b) w := by kernel_rfl
theorem part2 (a b c d : ByteArray) (e : Bool) (w : World) : (part 9 (refV a b c d e) 2).run Ybaf.prog w = .ok (.string c) w := by kernel_rfl
theorem part3 (a b c d : ByteArray) (e : Bool) (w : World) : (part 9 (refV a b c d e) 3).run Ybaf.prog w = .ok (.string d) w := by kernel_rfl
theorem part4 (a b c d : ByteArray) (e : Bool) (w : World) : (part 4 (refV a b c d e) 4).run Ybaf.prog w = .ok (.bool e) w := by kernel_rfl
theorem eqS (n : Nat) (s : ByteArray) (w : World) : (Op.equalIn (n + 1) 9 (.string s) (.string s)).run Ybaf.prog w = .ok true w := by
  rw [run_equalIn_string w n 9 s s Ybaf.underlying9]; simp
theorem eqB (n : Nat) (s : Bool) (w : World) : (Op.equalIn (n + 1) 4 (.bool s) (.bool s)).run Ybaf.prog w = .ok true w := by
  rw [run_equalIn_bool' w n 4 s s Ybaf.underlying4]; simp

theorem neqRef (a b c d : ByteArray) (e : Bool) (w : World) : (binOp .neq 46 (.agg (refV a b c d e)) (.agg (refV a b c d e))).run Ybaf.prog w = .ok (.bool false) w := by
  rw [run_neq_struct, run_equalIn_agg w 9999 46 _ _ Ybaf.struct46 Ybaf.stood46]
  have s := fun x => eqS 9998 x w
  have b' := fun x => eqB 9998 x w
  simp [Program.fieldsOf, Ybaf.underlying46, Op.eqFields, Sem.run_bind, part0, part1, part2, part3, part4, s, b', Result.andThen]

end Go.Proofs.YbulkegvaFmt
