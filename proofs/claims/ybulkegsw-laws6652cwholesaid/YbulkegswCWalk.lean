import Derived.Test.YbulkegswProg
import Derived.WalkKit
import Derived.WalkSpells
import Derived.RowKit3
import Derived.Deep.QuietTactic
import Derived.BigQuiet
import Derived.Outline
namespace Go.Proofs.Ybulkegsw.C
open Go.RowKit

/-- The least and the greatest offset round a ring of n, as Go reckons them. -/
def lo (n : Int) : Int := wrap64 (-wrap64 ((wrap64 (n - 1)).tdiv 2))
def hi (n : Int) : Int := wrap64 (n.tdiv 2)

set_option maxHeartbeats 400000 in
theorem offs (n : Int) (w : World) :
    Calls Yba.prog 28 #[.int .i64 n] w fun e w' => e = .returned (.tuple #[.int .i64 (lo n), .int .i64 (hi n)]) ∧ w' = w := by
  go_enter Yba.func28, Yba.ntmps28
  go_wp2
  go_ret2
  exact ⟨rfl, rfl⟩

theorem wrap_neg (n y : Int) (r : Bool) (w : World) (h : y < 0) :
    Calls Yba.prog 29 #[.agg #[.int .i64 n, .bool r], .int .i64 y] w fun e w' => e = .returned (.int .i64 (wrap64 (y + n))) ∧ Grown w w' := by
  go_enter Yba.func29, Yba.ntmps29
  go_wp2
  go_ret
  exact ⟨rfl, (Grown.refl _).alloc _ _⟩

theorem wrap_past (n y : Int) (r : Bool) (w : World) (h : ¬ y < 0) (h' : n ≤ y) :
    Calls Yba.prog 29 #[.agg #[.int .i64 n, .bool r], .int .i64 y] w fun e w' => e = .returned (.int .i64 (wrap64 (y - n))) ∧ Grown w w' := by
  go_enter Yba.func29, Yba.ntmps29
  go_wp2
  go_ret
  exact ⟨rfl, (Grown.refl _).alloc _ _⟩

theorem wrap_in (n y : Int) (r : Bool) (w : World) (h : ¬ y < 0) (h' : ¬ n ≤ y) :
    Calls Yba.prog 29 #[.agg #[.int .i64 n, .bool r], .int .i64 y] w fun e w' => e = .returned (.int .i64 y) ∧ Grown w w' := by
  go_enter Yba.func29, Yba.ntmps29
  go_wp2
  go_ret
  exact ⟨rfl, (Grown.refl _).alloc _ _⟩

/-- One comparison as unsigned numbers. -/
def ltu (n y : Int) : Bool := decide (IntKind.u64.wrap y < IntKind.u64.wrap n)

theorem grown_drewN {W w' : World} (h : Grown W w') (n : Nat) : Grown W (w'.drewN n) := h
theorem grown_trans {a b c : World} (h : Grown a b) (g : Grown b c) : Grown a c :=
  ⟨World.keptBut_trans h.1 g.1, fun x => (g.2.1 x).trans (h.2.1 x), Nat.le_trans h.2.2 g.2.2⟩

set_option maxHeartbeats 400000 in
theorem at_line (n x d : Int) (w : World) :
    Calls Yba.prog 19 #[.agg #[.int .i64 n, .bool false], .int .i64 x, .int .i64 d] w fun e w' => e = .returned (.tuple #[.int .i64 (wrap64 (x + d)), .bool (ltu n (wrap64 (x + d)))]) ∧ Grown w w' := by
  go_enter Yba.func19, Yba.ntmps19
  go_wp2
  go_quiet (fail)
  go_wp2
  go_ret2
  exact ⟨rfl, grown_drewN ((Grown.refl _).alloc _ _) _⟩

set_option maxHeartbeats 400000 in
theorem at_out (n x d : Int) (w : World) (h : d < lo n ∨ (¬ d < lo n ∧ hi n < d)) :
    Calls Yba.prog 19 #[.agg #[.int .i64 n, .bool true], .int .i64 x, .int .i64 d] w fun e w' => e = .returned (.tuple #[.int .i64 0, .bool false]) ∧ Grown w w' := by
  rcases h with h | ⟨h, h'⟩
  · go_enter Yba.func19, Yba.ntmps19
    go_wp2_with (go_at_call 28; refine (offs n _).mono ?_; rintro e w' ⟨rfl, rfl⟩)
    go_ret2
    exact ⟨rfl, (Grown.refl _).alloc _ _⟩
  · go_enter Yba.func19, Yba.ntmps19
    go_wp2_with (go_at_call 28; refine (offs n _).mono ?_; rintro e w' ⟨rfl, rfl⟩)
    go_ret2
    exact ⟨rfl, (Grown.refl _).alloc _ _⟩

/-- The coordinate of a ring that y stands for. -/
def wr (n y : Int) : Int := if y < 0 then wrap64 (y + n) else if n ≤ y then wrap64 (y - n) else y
theorem wrap_any (n y : Int) (r : Bool) (w : World) :
    Calls Yba.prog 29 #[.agg #[.int .i64 n, .bool r], .int .i64 y] w fun e w' => e = .returned (.int .i64 (wr n y)) ∧ Grown w w' := by
  unfold wr
  by_cases h : y < 0
  · rw [if_pos h]; exact wrap_neg n y r w h
  · rw [if_neg h]
    by_cases h' : n ≤ y
    · rw [if_pos h']; exact wrap_past n y r w h h'
    · rw [if_neg h']; exact wrap_in n y r w h h'

set_option maxHeartbeats 400000 in
theorem at_in (n x d : Int) (w : World) (h : ¬ d < lo n) (h' : ¬ hi n < d) :
    Calls Yba.prog 19 #[.agg #[.int .i64 n, .bool true], .int .i64 x, .int .i64 d] w fun e w' => e = .returned (.tuple #[.int .i64 (wr n (wrap64 (x + d))), .bool true]) ∧ Grown w w' := by
  go_enter Yba.func19, Yba.ntmps19
  go_wp2_with (first | (go_at_call 28; refine (offs n _).mono ?_; rintro e w' ⟨rfl, rfl⟩) | (go_at_call 29; refine (wrap_any n _ _ _).mono ?_; rintro e w' ⟨rfl, hg⟩))
  go_ret2
  exact ⟨rfl, grown_trans ((Grown.refl _).alloc _ _) hg⟩

/-! ### The plain laws -/
theorem ltu_nn {n y : Int} (hn : 0 ≤ n) (hy : 0 ≤ y) (bn : n < 9223372036854775808) (by' : y < 9223372036854775808) : ltu n y = decide (y < n) := by
  unfold ltu
  rw [IntKind.wrap_u64, IntKind.wrap_u64]
  rw [decide_eq_decide]
  omega
theorem ltu_nneg {n y : Int} (hn : 0 ≤ n) (hy : y < 0) (bn : n < 9223372036854775808) (by' : -9223372036854775808 ≤ y) : ltu n y = false := by
  unfold ltu
  rw [IntKind.wrap_u64, IntKind.wrap_u64]
  simp; omega
theorem ltu_negn {n y : Int} (hn : n < 0) (hy : 0 ≤ y) (bn : -9223372036854775808 ≤ n) (by' : y < 9223372036854775808) : ltu n y = true := by
  unfold ltu
  rw [IntKind.wrap_u64, IntKind.wrap_u64]
  simp; omega
theorem ltu_negneg {n y : Int} (hn : n < 0) (hy : y < 0) (bn : -9223372036854775808 ≤ n) (by' : -9223372036854775808 ≤ y) : ltu n y = decide (y < n) := by
  unfold ltu
  rw [IntKind.wrap_u64, IntKind.wrap_u64]
  rw [decide_eq_decide]
  omega
end Go.Proofs.Ybulkegsw.C
