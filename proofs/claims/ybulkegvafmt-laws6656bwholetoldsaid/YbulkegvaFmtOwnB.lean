/-
  DERIVED. ownerReferences: nothing; something that is no array.
-/
import Derived.Test.YbulkegvaFmtOwnA
set_option linter.unusedVariables false
namespace Go.Proofs.YbulkegvaFmt
open Go.RowKit Go.Extern.Stop Go.Stop Go.Extern Go.Maps
attribute [local go_sem] Ybaf.call13 Ybaf.guard Ybaf.fmt0 Ybaf.fmt0r Ybaf.fmt1 Ybaf.fmt1r Ybaf.fmt2 Ybaf.fmt2r Ybaf.fmt3 Ybaf.fmt3r Ybaf.fmt4 Ybaf.fmt4r
attribute [local go_sem] Ybaf.act3_100 Ybaf.op3_100 Ybaf.str3 Ybaf.act9_115 Ybaf.op9_115 Ybaf.str9 Ybaf.asNil_9 Ybaf.as9_9 Ybaf.as4_9 Ybaf.as23_9 Ybaf.as24_9 Ybaf.as72_9
attribute [local go_sem] Ybaf.asNil_4 Ybaf.as9_4 Ybaf.as4_4 Ybaf.as23_4 Ybaf.as24_4 Ybaf.as72_4 Ybaf.asNil_23 Ybaf.as9_23 Ybaf.as4_23 Ybaf.as23_23 Ybaf.as24_23 Ybaf.as72_23
attribute [local go_sem] Ybaf.asNil_24 Ybaf.as9_24 Ybaf.as4_24 Ybaf.as23_24 Ybaf.as24_24 Ybaf.as72_24 Ybaf.as37_37 Ybaf.isIface20 Ybaf.isIface33 Ybaf.mapNil

set_option maxHeartbeats 1600000 in
theorem own_nil (mv : Value) (w : World) (hl : (Instr.lookup 23 mv (.string ⟨#[111, 119, 110, 101, 114, 82, 101, 102, 101, 114, 101, 110, 99, 101, 115]⟩) false).run Ybaf.prog w = .ok .nilIface w) :
    Calls Ybaf.prog 5 #[mv] w fun e w' => e = .returned (.tuple #[.slice (some ⟨w.heap.size, 0, none⟩) 0 0, .nilIface]) ∧ Below w.heap.size w w' := by
  have hmk : ∀ w : World, (Instr.makeSlice 31 (.int .i64 0) (.int .i64 0)).run Ybaf.prog w = .ok (.slice (some ⟨w.heap.size, 0, none⟩) 0 0) (w.alloc (.cells (madeCells zref (0 * 5)) 46)) := fun w => mk31 0 (by omega) w
  go_enter Ybaf.func5, Ybaf.ntmps5
  go_wp2_with (first | (go_at_call 12; refine (arr_nil _ _ _ _ hl).mono ?_; rintro e w' ⟨rfl, rfl⟩))
  apply wp_loop_rounds 1
  rw [rounds_succ]
  go_wp2
  go_ret2
  exact ⟨rfl, (Below.refl _ w').alloc (Nat.le_refl _) _⟩

set_option maxHeartbeats 1600000 in
theorem own_bad (F : Interp) (mv v : Value) (w : World) (hF : F.answers w.tape) (hl : (Instr.lookup 23 mv (.string ⟨#[111, 119, 110, 101, 114, 82, 101, 102, 101, 114, 101, 110, 99, 101, 115]⟩) false).run Ybaf.prog w = .ok (.iface 9 v) w) :
    Calls Ybaf.prog 5 #[mv] w fun e w' => ∃ p, e = .returned (.tuple #[.slice none 0 0, .iface 37 (.pointer (some ⟨p, 0, none⟩))]) ∧ w.heap.size ≤ p ∧ ErrAt w' p ∧ Below w.heap.size w w' := by
  go_enter Ybaf.func5, Ybaf.ntmps5
  go_wp2_with (first | (go_at_call 12; refine (arr_bad F _ _ _ _ _ hF hl).mono ?_; rintro e w' ⟨p, rfl, hp, he, hb⟩))
  go_ret2
  exact ⟨p, rfl, hp, he, hb⟩

end Go.Proofs.YbulkegvaFmt
