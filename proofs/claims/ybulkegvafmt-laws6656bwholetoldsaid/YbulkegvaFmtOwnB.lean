/-
  DERIVED. ownerReferences: nothing; something that is no array.
-/
import Derived.Test.YbulkegvaFmtOwnA
set_option linter.unusedVariables false
namespace Go.Proofs.YbulkegvaFmt
open Go.RowKit Go.Extern.Stop Go.Stop Go.Extern Go.Maps

set_option maxHeartbeats 1600000 in
theorem own_nil (mv : Value) (w : World) (hl : (Instr.lookup 23 mv (.string ⟨#[111, 119, 110, 101, 114, 82, 101, 102, 101, 114, 101, 110, 99, 101, 115]⟩) false).run Ybaf.prog w = .ok .nilIface w) :
    Calls Ybaf.prog 5 #[mv] w fun e w' => e = .returned (.tuple #[.slice (some ⟨w.heap.size, 0, none⟩) 0 0, .nilIface]) ∧ Below w.heap.size w w' := by
  have hmk : ∀ w : World, (Instr.makeSlice 31 (.int .i64 0) (.int .i64 0)).run Ybaf.prog w = .ok (.slice (some ⟨w.heap.size, 0, none⟩) 0 0) (w.alloc (.cells (madeCells zref (0 * 5)) 46)) := fun w => mk31 0 (by omega) w
  go_enter Ybaf.func5, Ybaf.ntmps5
  go_wp2_with (first | (go_at_call 12; refine (arr_nil _ _ _ _ hl).mono ?_; rintro e w' ⟨rfl, rfl⟩))
  apply wp_loop_rounds 1
  rw [rounds_succ]
  go_wp2
  go_ret2
  exact ⟨rfl, (Below.refl _ w').alloc (Nat.le_refl _) _⟩

set_option maxHeartbeats 1600000 in
theorem own_bad (F : Interp) (mv v : Value) (w : World) (hF : F.answers w.tape) (hl : (Instr.lookup 23 mv (.string ⟨#[111, 119, 110, 101, 114, 82, 101, 102, 101, 114, 101, 110, 99, 101, 115]⟩) false).run Ybaf.prog w = .ok (.iface 9 v) w) :
    Calls Ybaf.prog 5 #[mv] w fun e w' => ∃ p, e = .returned (.tuple #[.slice none 0 0, .iface 37 (.pointer (some ⟨p, 0, none⟩))]) ∧ w.heap.size ≤ p ∧ ErrAt w' p ∧ Below w.heap.size w w' := by
  go_enter Ybaf.func5, Ybaf.ntmps5
  go_wp2_with (first | (go_at_call 12; refine (arr_bad F _ _ _ _ _ hF hl).mono ?_; rintro e w' ⟨p, rfl, hp, he, hb⟩))
  go_ret2
  exact ⟨p, rfl, hp, he, hb⟩

end Go.Proofs.YbulkegvaFmt
