/-
  DERIVED. A member as the law is handed it, and what the small functions make of it.
-/
import Derived.Test.YbulkegvaFmtLeaves
import Derived.LoopN
set_option linter.unusedSimpArgs false
set_option linter.unusedVariables false
namespace Go.Proofs.YbulkegvaFmt
open Go.RowKit Go.Extern.Stop Go.Stop Go.Extern
attribute [local go_sem] Ybaf.call13 Ybaf.guard Ybaf.fmt0 Ybaf.fmt0r Ybaf.fmt1 Ybaf.fmt1r Ybaf.fmt2 Ybaf.fmt2r Ybaf.fmt3 Ybaf.fmt3r Ybaf.fmt4 Ybaf.fmt4r
attribute [local go_sem] Ybaf.act3_100 Ybaf.op3_100 Ybaf.str3 Ybaf.act9_115 Ybaf.op9_115 Ybaf.str9 Ybaf.asNil_9 Ybaf.as9_9 Ybaf.as4_9 Ybaf.as23_9 Ybaf.as24_9 Ybaf.as72_9
attribute [local go_sem] Ybaf.asNil_4 Ybaf.as9_4 Ybaf.as4_4 Ybaf.as23_4 Ybaf.as24_4 Ybaf.as72_4 Ybaf.asNil_23 Ybaf.as9_23 Ybaf.as4_23 Ybaf.as23_23 Ybaf.as24_23 Ybaf.as72_23
attribute [local go_sem] Ybaf.asNil_24 Ybaf.as9_24 Ybaf.as4_24 Ybaf.as23_24 Ybaf.as24_24 Ybaf.as72_24 Ybaf.as37_37 Ybaf.isIface20 Ybaf.isIface33

structure Mem where
  k : Int
  t0 : Int
  s0 : ByteArray
  t1 : Int
  s1 : ByteArray
  t2 : Int
  s2 : ByteArray
  t3 : Int
  s3 : ByteArray
  ct : Int
  cb : Bool
  bt : Int
  bb : Bool

def Mem.cells (m : Mem) : Array Value := #[.int .u8 m.k, .int .u8 m.t0, .string m.s0, .int .u8 m.t1, .string m.s1, .int .u8 m.t2, .string m.s2, .int .u8 m.t3, .string m.s3, .int .u8 m.ct, .bool m.cb, .int .u8 m.bt, .bool m.bb]

def Mem.fails (m : Mem) : Bool :=
  if m.k.tmod 4 = 2 then false else if m.k.tmod 4 = 3 then true else
    decide (m.t0.tmod 4 = 3) || decide (m.t1.tmod 4 = 3) || decide (m.t2.tmod 4 = 3) || decide (m.t3.tmod 4 = 3) || decide (m.ct.tmod 4 = 3) || decide (m.bt.tmod 4 = 3)


set_option maxHeartbeats 1600000 in
theorem fails_2 (k t0 t1 t2 t3 ct bt : Int) (s0 s1 s2 s3 : ByteArray) (cb bb : Bool) (w : World) (h2 : k.tmod 4 = 2) :
    Calls Ybaf.prog 6 #[.agg #[.int .u8 k, .int .u8 t0, .string s0, .int .u8 t1, .string s1, .int .u8 t2, .string s2, .int .u8 t3, .string s3, .int .u8 ct, .bool cb, .int .u8 bt, .bool bb]] w fun e w' => e = .returned (.bool false) ∧ Below w.heap.size w w' := by
  go_enter Ybaf.func6, Ybaf.ntmps6
  go_wp2
  go_ret
  exact ⟨rfl, (Below.refl _ w).alloc (Nat.le_refl _) _⟩

set_option maxHeartbeats 1600000 in
theorem fails_3 (k t0 t1 t2 t3 ct bt : Int) (s0 s1 s2 s3 : ByteArray) (cb bb : Bool) (w : World) (h3 : k.tmod 4 = 3) :
    Calls Ybaf.prog 6 #[.agg #[.int .u8 k, .int .u8 t0, .string s0, .int .u8 t1, .string s1, .int .u8 t2, .string s2, .int .u8 t3, .string s3, .int .u8 ct, .bool cb, .int .u8 bt, .bool bb]] w fun e w' => e = .returned (.bool true) ∧ Below w.heap.size w w' := by
  go_enter Ybaf.func6, Ybaf.ntmps6
  go_wp2
  go_ret
  exact ⟨rfl, (Below.refl _ w).alloc (Nat.le_refl _) _⟩

set_option maxHeartbeats 1600000 in
theorem fails_s0 (k t0 t1 t2 t3 ct bt : Int) (s0 s1 s2 s3 : ByteArray) (cb bb : Bool) (w : World) (h2 : ¬ k.tmod 4 = 2) (h3 : ¬ k.tmod 4 = 3) (g0 : t0.tmod 4 = 3) :
    Calls Ybaf.prog 6 #[.agg #[.int .u8 k, .int .u8 t0, .string s0, .int .u8 t1, .string s1, .int .u8 t2, .string s2, .int .u8 t3, .string s3, .int .u8 ct, .bool cb, .int .u8 bt, .bool bb]] w fun e w' => e = .returned (.bool true) ∧ Below w.heap.size w w' := by
  go_enter Ybaf.func6, Ybaf.ntmps6
  go_wp2
  apply wp_loop_rounds 5
  rw [rounds_succ]
  go_wp2
  go_ret
  exact ⟨rfl, (Below.refl _ w).alloc (Nat.le_refl _) _⟩

set_option maxHeartbeats 1600000 in
theorem fails_s1 (k t0 t1 t2 t3 ct bt : Int) (s0 s1 s2 s3 : ByteArray) (cb bb : Bool) (w : World) (h2 : ¬ k.tmod 4 = 2) (h3 : ¬ k.tmod 4 = 3) (g0 : ¬ t0.tmod 4 = 3) (g1 : t1.tmod 4 = 3) :
    Calls Ybaf.prog 6 #[.agg #[.int .u8 k, .int .u8 t0, .string s0, .int .u8 t1, .string s1, .int .u8 t2, .string s2, .int .u8 t3, .string s3, .int .u8 ct, .bool cb, .int .u8 bt, .bool bb]] w fun e w' => e = .returned (.bool true) ∧ Below w.heap.size w w' := by
  go_enter Ybaf.func6, Ybaf.ntmps6
  go_wp2
  apply wp_loop_rounds 5
  rw [rounds_succ]
  go_wp2
  rw [rounds_succ]
  go_wp2
  go_ret
  exact ⟨rfl, (Below.refl _ w).alloc (Nat.le_refl _) _⟩

set_option maxHeartbeats 1600000 in
theorem fails_s2 (k t0 t1 t2 t3 ct bt : Int) (s0 s1 s2 s3 : ByteArray) (cb bb : Bool) (w : World) (h2 : ¬ k.tmod 4 = 2) (h3 : ¬ k.tmod 4 = 3) (g0 : ¬ t0.tmod 4 = 3) (g1 : ¬ t1.tmod 4 = 3) (g2 : t2.tmod 4 = 3) :
    Calls Ybaf.prog 6 #[.agg #[.int .u8 k, .int .u8 t0, .string s0, .int .u8 t1, .string s1, .int .u8 t2, .string s2, .int .u8 t3, .string s3, .int .u8 ct, .bool cb, .int .u8 bt, .bool bb]] w fun e w' => e = .returned (.bool true) ∧ Below w.heap.size w w' := by
  go_enter Ybaf.func6, Ybaf.ntmps6
  go_wp2
  apply wp_loop_rounds 5
  rw [rounds_succ]
  go_wp2
  rw [rounds_succ]
  go_wp2
  rw [rounds_succ]
  go_wp2
  go_ret
  exact ⟨rfl, (Below.refl _ w).alloc (Nat.le_refl _) _⟩

set_option maxHeartbeats 1600000 in
theorem fails_s3 (k t0 t1 t2 t3 ct bt : Int) (s0 s1 s2 s3 : ByteArray) (cb bb : Bool) (w : World) (h2 : ¬ k.tmod 4 = 2) (h3 : ¬ k.tmod 4 = 3) (g0 : ¬ t0.tmod 4 = 3) (g1 : ¬ t1.tmod 4 = 3) (g2 : ¬ t2.tmod 4 = 3) (g3 : t3.tmod 4 = 3) :
    Calls Ybaf.prog 6 #[.agg #[.int .u8 k, .int .u8 t0, .string s0, .int .u8 t1, .string s1, .int .u8 t2, .string s2, .int .u8 t3, .string s3, .int .u8 ct, .bool cb, .int .u8 bt, .bool bb]] w fun e w' => e = .returned (.bool true) ∧ Below w.heap.size w w' := by
  go_enter Ybaf.func6, Ybaf.ntmps6
  go_wp2
  apply wp_loop_rounds 5
  rw [rounds_succ]
  go_wp2
  rw [rounds_succ]
  go_wp2
  rw [rounds_succ]
  go_wp2
  rw [rounds_succ]
  go_wp2
  go_ret
  exact ⟨rfl, (Below.refl _ w).alloc (Nat.le_refl _) _⟩

set_option maxHeartbeats 1600000 in
theorem fails_c3 (k t0 t1 t2 t3 ct bt : Int) (s0 s1 s2 s3 : ByteArray) (cb bb : Bool) (w : World) (h2 : ¬ k.tmod 4 = 2) (h3 : ¬ k.tmod 4 = 3) (g0 : ¬ t0.tmod 4 = 3) (g1 : ¬ t1.tmod 4 = 3) (g2 : ¬ t2.tmod 4 = 3) (g3 : ¬ t3.tmod 4 = 3) (g4 : ct.tmod 4 = 3) :
    Calls Ybaf.prog 6 #[.agg #[.int .u8 k, .int .u8 t0, .string s0, .int .u8 t1, .string s1, .int .u8 t2, .string s2, .int .u8 t3, .string s3, .int .u8 ct, .bool cb, .int .u8 bt, .bool bb]] w fun e w' => e = .returned (.bool true) ∧ Below w.heap.size w w' := by
  go_enter Ybaf.func6, Ybaf.ntmps6
  go_wp2
  apply wp_loop_rounds 5
  rw [rounds_succ]
  go_wp2
  rw [rounds_succ]
  go_wp2
  rw [rounds_succ]
  go_wp2
  rw [rounds_succ]
  go_wp2
  rw [rounds_succ]
  go_wp2
  go_ret
  exact ⟨rfl, (Below.refl _ w).alloc (Nat.le_refl _) _⟩

set_option maxHeartbeats 1600000 in
theorem fails_no (k t0 t1 t2 t3 ct bt : Int) (s0 s1 s2 s3 : ByteArray) (cb bb : Bool) (w : World) (h2 : ¬ k.tmod 4 = 2) (h3 : ¬ k.tmod 4 = 3) (g0 : ¬ t0.tmod 4 = 3) (g1 : ¬ t1.tmod 4 = 3) (g2 : ¬ t2.tmod 4 = 3) (g3 : ¬ t3.tmod 4 = 3) (g4 : ¬ ct.tmod 4 = 3) :
    Calls Ybaf.prog 6 #[.agg #[.int .u8 k, .int .u8 t0, .string s0, .int .u8 t1, .string s1, .int .u8 t2, .string s2, .int .u8 t3, .string s3, .int .u8 ct, .bool cb, .int .u8 bt, .bool bb]] w fun e w' => e = .returned (.bool (ct.tmod 4 == 3 || bt.tmod 4 == 3)) ∧ Below w.heap.size w w' := by
  go_enter Ybaf.func6, Ybaf.ntmps6
  go_wp2
  apply wp_loop_rounds 5
  rw [rounds_succ]
  go_wp2
  rw [rounds_succ]
  go_wp2
  rw [rounds_succ]
  go_wp2
  rw [rounds_succ]
  go_wp2
  rw [rounds_succ]
  go_wp2
  go_ret
  exact ⟨rfl, (Below.refl _ w).alloc (Nat.le_refl _) _⟩

theorem fails_c (m : Mem) (w : World) : Calls Ybaf.prog 6 #[.agg m.cells] w fun e w' => e = .returned (.bool m.fails) ∧ Below w.heap.size w w' := by
  obtain ⟨k, t0, s0, t1, s1, t2, s2, t3, s3, ct, cb, bt, bb⟩ := m
  unfold Mem.cells Mem.fails
  by_cases h2 : k.tmod 4 = 2
  · simp only [h2, if_true]
    exact fails_2 k t0 t1 t2 t3 ct bt s0 s1 s2 s3 cb bb w h2
  by_cases h3 : k.tmod 4 = 3
  · simp only [h2, h3, if_true, if_false]
    exact fails_3 k t0 t1 t2 t3 ct bt s0 s1 s2 s3 cb bb w h3
  simp only [h2, h3, if_false]
  by_cases g0 : t0.tmod 4 = 3
  · simp only [g0, decide_true, Bool.true_or]
    exact fails_s0 k t0 t1 t2 t3 ct bt s0 s1 s2 s3 cb bb w h2 h3 g0
  by_cases g1 : t1.tmod 4 = 3
  · simp only [g1, decide_true, Bool.true_or, Bool.or_true]
    exact fails_s1 k t0 t1 t2 t3 ct bt s0 s1 s2 s3 cb bb w h2 h3 g0 g1
  by_cases g2 : t2.tmod 4 = 3
  · simp only [g2, decide_true, Bool.true_or, Bool.or_true]
    exact fails_s2 k t0 t1 t2 t3 ct bt s0 s1 s2 s3 cb bb w h2 h3 g0 g1 g2
  by_cases g3 : t3.tmod 4 = 3
  · simp only [g3, decide_true, Bool.true_or, Bool.or_true]
    exact fails_s3 k t0 t1 t2 t3 ct bt s0 s1 s2 s3 cb bb w h2 h3 g0 g1 g2 g3
  by_cases g4 : ct.tmod 4 = 3
  · simp only [g4, decide_true, Bool.true_or, Bool.or_true]
    exact fails_c3 k t0 t1 t2 t3 ct bt s0 s1 s2 s3 cb bb w h2 h3 g0 g1 g2 g3 g4
  simp only [g0, g1, g2, g3, decide_false, Bool.false_or]
  exact fails_no k t0 t1 t2 t3 ct bt s0 s1 s2 s3 cb bb w h2 h3 g0 g1 g2 g3 g4

end Go.Proofs.YbulkegvaFmt
