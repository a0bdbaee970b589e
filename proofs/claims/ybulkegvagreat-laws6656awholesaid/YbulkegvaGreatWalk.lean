/-
  LawS6656AWhole: the walk.
-/
import Derived.Test.YbulkegvaGreatProg
import Derived.WalkKit
import Derived.WalkSpells
import Derived.RowKit3
import Derived.Laws.EntriesVeiled
namespace Go.Proofs.YbulkegvaGreat
open Go.RowKit
set_option linter.unusedVariables false

set_option maxRecDepth 100000 in
theorem law_no (d prior history : Int) (expire hold : Bool) (fw fc version : Int) (w : World) (h : d ≤ 0) :
    Calls Ybaz.prog 3 #[.int .i64 d, .int .i64 prior, .int .i64 history, .bool expire, .bool hold, .int .i64 fw, .int .i64 fc, .int .i64 version] w fun e w' => e = .returned (.bool true) ∧ Grown w w' := by
  go_enter Ybaz.func3, Ybaz.ntmps3
  go_wp2
  go_ret
  exact ⟨rfl, Grown.refl _⟩

theorem with_int (d : Int) (w : World) (h : 0 < d) :
    Calls Ybaz.prog 4 #[.int .i64 d] w fun e w' => e = .returned (.func (.func 5) #[] #[.pointer (some ⟨w.heap.size, 0, none⟩)]) ∧ w' = w.alloc (.cells #[.int .i64 d] 25) := by
  have hmf : ∀ (fn : Fn) (first cap : Array Value) (w : World), (Instr.makeFunc fn first cap).run Ybaz.prog w = .ok (.func fn first cap) w := fun _ _ _ _ => rfl
  have h' : ¬ d ≤ 0 := by omega
  go_enter Ybaz.func4, Ybaz.ntmps4
  go_wp2
  go_ret
  exact ⟨rfl, rfl⟩

theorem opt (b c : Nat) (d : Int) (x : Value) (w : World) (h1 : w.cell? ⟨c, 0, none⟩ = some (.int .i64 d)) (h2 : w.cell? ⟨b, 2, none⟩ = some x) (f2 : w.frozen? ⟨b, 2, none⟩ = false) :
    Calls Ybaz.prog 5 #[.pointer (some ⟨b, 0, none⟩), .pointer (some ⟨c, 0, none⟩)] w fun e w' => e = .returned (.tuple #[]) ∧ w' = w.setCell ⟨b, 2, none⟩ (.int .i64 d) := by
  go_enter Ybaz.func5, Ybaz.ntmps5
  go_wp2
  go_end0
  exact ⟨rfl, rfl⟩

set_option maxRecDepth 100000 in
set_option maxHeartbeats 3200000 in
theorem law_yes (d prior history : Int) (expire hold : Bool) (fw fc version : Int) (w : World) (h : 0 < d) :
    Calls Ybaz.prog 3 #[.int .i64 d, .int .i64 prior, .int .i64 history, .bool expire, .bool hold, .int .i64 fw, .int .i64 fc, .int .i64 version] w fun e w' => e = .returned (.bool true) ∧ Grown w w' := by
  have h' : ¬ d ≤ 0 := by omega
  have hq : ∀ (fn : Fn) (first cap : Array Value) (w : World), (binOp .eql 23 (.func fn first cap) .nilFunc).run Ybaz.prog w = .ok (.bool false) w := fun _ _ _ _ => by kernel_rfl
  have m29 := fun w r => run_neq_map_nil (P := Ybaz.prog) w 29 _ _ r Ybaz.underlying29
  have m54 := fun w r => run_neq_map_nil (P := Ybaz.prog) w 54 _ _ r Ybaz.underlying54
  have m56 := fun w r => run_neq_map_nil (P := Ybaz.prog) w 56 _ _ r Ybaz.underlying56
  have n45 := fun w a n c => run_neq_slice_nil_any (P := Ybaz.prog) w 45 _ a n c 0 0 Ybaz.underlying45
  go_enter Ybaz.func3, Ybaz.ntmps3
  go_wp2_with fail
  refine (with_int d _ h).mono ?_
  rintro e w' ⟨rfl, rfl⟩
  go_wp2_with fail
  refine (opt (w.heap.size + 1) w.heap.size d (.int .i64 prior) _ (by simp [go_sem]) (by simp [go_sem]) (by simp [go_sem])).mono ?_
  rintro e w' ⟨rfl, rfl⟩
  go_wp2_with fail
  refine (opt (w.heap.size + 1) w.heap.size d (.int .i64 d) _ (by simp [go_sem]) (by simp [go_sem]) (by simp [go_sem])).mono ?_
  rintro e w' ⟨rfl, rfl⟩
  go_wp2
  go_ret
  exact ⟨rfl, ((Grown.refl _).alloc _ _).alloc _ _⟩
end Go.Proofs.YbulkegvaGreat
