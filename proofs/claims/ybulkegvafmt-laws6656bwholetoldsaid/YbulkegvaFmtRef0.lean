/-
  DERIVED. zzs6656bref: ways 0.
-/
import Derived.Test.YbulkegvaFmtRefH
set_option linter.unusedVariables false
namespace Go.Proofs.YbulkegvaFmt
open Go.RowKit Go.Extern.Stop Go.Stop Go.Extern

set_option maxHeartbeats 1600000 in
theorem ref_yyyyy (k t0 t1 t2 t3 ct bt : Int) (s0 s1 s2 s3 : ByteArray) (cb bb : Bool) (w : World) (h2 : ¬ k.tmod 4 = 2) (g0 : t0.tmod 4 = 2) (g1 : t1.tmod 4 = 2) (g2 : t2.tmod 4 = 2) (g3 : t3.tmod 4 = 2) (g4 : ct.tmod 4 = 2) :
    Calls Ybaf.prog 7 #[.agg #[.int .u8 k, .int .u8 t0, .string s0, .int .u8 t1, .string s1, .int .u8 t2, .string s2, .int .u8 t3, .string s3, .int .u8 ct, .bool cb, .int .u8 bt, .bool bb]] w fun e w' => e = .returned (.agg #[.string s0, .string s1, .string s2, .string s3, .bool cb]) ∧ Below w.heap.size w w' := by
  go_enter Ybaf.func7, Ybaf.ntmps7
  go_wp2
  apply wp_loop_rounds 5
  rw [rounds_succ]
  go_wp2
  rw [rounds_succ]
  go_wp2
  rw [rounds_succ]
  go_wp2
  rw [rounds_succ]
  go_wp2
  rw [rounds_succ]
  go_wp2
  exact ⟨rfl, _, results_cell_row rfl _ _ (w.heap.size + 1) 46 _ _ _ rfl (heap4 _ _ _ _ _) Ybaf.underlying46 rfl (by kernel_rfl), rfl, below4 _ _ _ _ _⟩

set_option maxHeartbeats 1600000 in
theorem ref_yyyyn (k t0 t1 t2 t3 ct bt : Int) (s0 s1 s2 s3 : ByteArray) (cb bb : Bool) (w : World) (h2 : ¬ k.tmod 4 = 2) (g0 : t0.tmod 4 = 2) (g1 : t1.tmod 4 = 2) (g2 : t2.tmod 4 = 2) (g3 : t3.tmod 4 = 2) (g4 : ¬ ct.tmod 4 = 2) :
    Calls Ybaf.prog 7 #[.agg #[.int .u8 k, .int .u8 t0, .string s0, .int .u8 t1, .string s1, .int .u8 t2, .string s2, .int .u8 t3, .string s3, .int .u8 ct, .bool cb, .int .u8 bt, .bool bb]] w fun e w' => e = .returned (.agg #[.string s0, .string s1, .string s2, .string s3, .bool false]) ∧ Below w.heap.size w w' := by
  go_enter Ybaf.func7, Ybaf.ntmps7
  go_wp2
  apply wp_loop_rounds 5
  rw [rounds_succ]
  go_wp2
  rw [rounds_succ]
  go_wp2
  rw [rounds_succ]
  go_wp2
  rw [rounds_succ]
  go_wp2
  rw [rounds_succ]
  go_wp2
  exact ⟨rfl, _, results_cell_row rfl _ _ (w.heap.size + 1) 46 _ _ _ rfl (heap4 _ _ _ _ _) Ybaf.underlying46 rfl (by kernel_rfl), rfl, below4 _ _ _ _ _⟩

set_option maxHeartbeats 1600000 in
theorem ref_yyyny (k t0 t1 t2 t3 ct bt : Int) (s0 s1 s2 s3 : ByteArray) (cb bb : Bool) (w : World) (h2 : ¬ k.tmod 4 = 2) (g0 : t0.tmod 4 = 2) (g1 : t1.tmod 4 = 2) (g2 : t2.tmod 4 = 2) (g3 : ¬ t3.tmod 4 = 2) (g4 : ct.tmod 4 = 2) :
    Calls Ybaf.prog 7 #[.agg #[.int .u8 k, .int .u8 t0, .string s0, .int .u8 t1, .string s1, .int .u8 t2, .string s2, .int .u8 t3, .string s3, .int .u8 ct, .bool cb, .int .u8 bt, .bool bb]] w fun e w' => e = .returned (.agg #[.string s0, .string s1, .string s2, .string ⟨#[]⟩, .bool cb]) ∧ Below w.heap.size w w' := by
  go_enter Ybaf.func7, Ybaf.ntmps7
  go_wp2
  apply wp_loop_rounds 5
  rw [rounds_succ]
  go_wp2
  rw [rounds_succ]
  go_wp2
  rw [rounds_succ]
  go_wp2
  rw [rounds_succ]
  go_wp2
  rw [rounds_succ]
  go_wp2
  exact ⟨rfl, _, results_cell_row rfl _ _ (w.heap.size + 1) 46 _ _ _ rfl (heap4 _ _ _ _ _) Ybaf.underlying46 rfl (by kernel_rfl), rfl, below4 _ _ _ _ _⟩

set_option maxHeartbeats 1600000 in
theorem ref_yyynn (k t0 t1 t2 t3 ct bt : Int) (s0 s1 s2 s3 : ByteArray) (cb bb : Bool) (w : World) (h2 : ¬ k.tmod 4 = 2) (g0 : t0.tmod 4 = 2) (g1 : t1.tmod 4 = 2) (g2 : t2.tmod 4 = 2) (g3 : ¬ t3.tmod 4 = 2) (g4 : ¬ ct.tmod 4 = 2) :
    Calls Ybaf.prog 7 #[.agg #[.int .u8 k, .int .u8 t0, .string s0, .int .u8 t1, .string s1, .int .u8 t2, .string s2, .int .u8 t3, .string s3, .int .u8 ct, .bool cb, .int .u8 bt, .bool bb]] w fun e w' => e = .returned (.agg #[.string s0, .string s1, .string s2, .string ⟨#[]⟩, .bool false]) ∧ Below w.heap.size w w' := by
  go_enter Ybaf.func7, Ybaf.ntmps7
  go_wp2
  apply wp_loop_rounds 5
  rw [rounds_succ]
  go_wp2
  rw [rounds_succ]
  go_wp2
  rw [rounds_succ]
  go_wp2
  rw [rounds_succ]
  go_wp2
  rw [rounds_succ]
  go_wp2
  exact ⟨rfl, _, results_cell_row rfl _ _ (w.heap.size + 1) 46 _ _ _ rfl (heap4 _ _ _ _ _) Ybaf.underlying46 rfl (by kernel_rfl), rfl, below4 _ _ _ _ _⟩

set_option maxHeartbeats 1600000 in
theorem ref_yynyy (k t0 t1 t2 t3 ct bt : Int) (s0 s1 s2 s3 : ByteArray) (cb bb : Bool) (w : World) (h2 : ¬ k.tmod 4 = 2) (g0 : t0.tmod 4 = 2) (g1 : t1.tmod 4 = 2) (g2 : ¬ t2.tmod 4 = 2) (g3 : t3.tmod 4 = 2) (g4 : ct.tmod 4 = 2) :
    Calls Ybaf.prog 7 #[.agg #[.int .u8 k, .int .u8 t0, .string s0, .int .u8 t1, .string s1, .int .u8 t2, .string s2, .int .u8 t3, .string s3, .int .u8 ct, .bool cb, .int .u8 bt, .bool bb]] w fun e w' => e = .returned (.agg #[.string s0, .string s1, .string ⟨#[]⟩, .string s3, .bool cb]) ∧ Below w.heap.size w w' := by
  go_enter Ybaf.func7, Ybaf.ntmps7
  go_wp2
  apply wp_loop_rounds 5
  rw [rounds_succ]
  go_wp2
  rw [rounds_succ]
  go_wp2
  rw [rounds_succ]
  go_wp2
  rw [rounds_succ]
  go_wp2
  rw [rounds_succ]
  go_wp2
  exact ⟨rfl, _, results_cell_row rfl _ _ (w.heap.size + 1) 46 _ _ _ rfl (heap4 _ _ _ _ _) Ybaf.underlying46 rfl (by kernel_rfl), rfl, below4 _ _ _ _ _⟩

set_option maxHeartbeats 1600000 in
theorem ref_yynyn (k t0 t1 t2 t3 ct bt : Int) (s0 s1 s2 s3 : ByteArray) (cb bb : Bool) (w : World) (h2 : ¬ k.tmod 4 = 2) (g0 : t0.tmod 4 = 2) (g1 : t1.tmod 4 = 2) (g2 : ¬ t2.tmod 4 = 2) (g3 : t3.tmod 4 = 2) (g4 : ¬ ct.tmod 4 = 2) :
    Calls Ybaf.prog 7 #[.agg #[.int .u8 k, .int .u8 t0, .string s0, .int .u8 t1, .string s1, .int .u8 t2, .string s2, .int .u8 t3, .string s3, .int .u8 ct, .bool cb, .int .u8 bt, .bool bb]] w fun e w' => e = .returned (.agg #[.string s0, .string s1, .string ⟨#[]⟩, .string s3, .bool false]) ∧ Below w.heap.size w w' := by
  go_enter Ybaf.func7, Ybaf.ntmps7
  go_wp2
  apply wp_loop_rounds 5
  rw [rounds_succ]
  go_wp2
  rw [rounds_succ]
  go_wp2
  rw [rounds_succ]
  go_wp2
  rw [rounds_succ]
  go_wp2
  rw [rounds_succ]
  go_wp2
  exact ⟨rfl, _, results_cell_row rfl _ _ (w.heap.size + 1) 46 _ _ _ rfl (heap4 _ _ _ _ _) Ybaf.underlying46 rfl (by kernel_rfl), rfl, below4 _ _ _ _ _⟩

set_option maxHeartbeats 1600000 in
theorem ref_yynny (k t0 t1 t2 t3 ct bt : Int) (s0 s1 s2 s3 : ByteArray) (cb bb : Bool) (w : World) (h2 : ¬ k.tmod 4 = 2) (g0 : t0.tmod 4 = 2) (g1 : t1.tmod 4 = 2) (g2 : ¬ t2.tmod 4 = 2) (g3 : ¬ t3.tmod 4 = 2) (g4 : ct.tmod 4 = 2) :
    Calls Ybaf.prog 7 #[.agg #[.int .u8 k, .int .u8 t0, .string s0, .int .u8 t1, .string s1, .int .u8 t2, .string s2, .int .u8 t3, .string s3, .int .u8 ct, .bool cb, .int .u8 bt, .bool bb]] w fun e w' => e = .returned (.agg #[.string s0, .string s1, .string ⟨#[]⟩, .string ⟨#[]⟩, .bool cb]) ∧ Below w.heap.size w w' := by
  go_enter Ybaf.func7, Ybaf.ntmps7
  go_wp2
  apply wp_loop_rounds 5
  rw [rounds_succ]
  go_wp2
  rw [rounds_succ]
  go_wp2
  rw [rounds_succ]
  go_wp2
  rw [rounds_succ]
  go_wp2
  rw [rounds_succ]
  go_wp2
  exact ⟨rfl, _, results_cell_row rfl _ _ (w.heap.size + 1) 46 _ _ _ rfl (heap4 _ _ _ _ _) Ybaf.underlying46 rfl (by kernel_rfl), rfl, below4 _ _ _ _ _⟩

set_option maxHeartbeats 1600000 in
theorem ref_yynnn (k t0 t1 t2 t3 ct bt : Int) (s0 s1 s2 s3 : ByteArray) (cb bb : Bool) (w : World) (h2 : ¬ k.tmod 4 = 2) (g0 : t0.tmod 4 = 2) (g1 : t1.tmod 4 = 2) (g2 : ¬ t2.tmod 4 = 2) (g3 : ¬ t3.tmod 4 = 2) (g4 : ¬ ct.tmod 4 = 2) :
    Calls Ybaf.prog 7 #[.agg #[.int .u8 k, .int .u8 t0, .string s0, .int .u8 t1, .string s1, .int .u8 t2, .string s2, .int .u8 t3, .string s3, .int .u8 ct, .bool cb, .int .u8 bt, .bool bb]] w fun e w' => e = .returned (.agg #[.string s0, .string s1, .string ⟨#[]⟩, .string ⟨#[]⟩, .bool false]) ∧ Below w.heap.size w w' := by
  go_enter Ybaf.func7, Ybaf.ntmps7
  go_wp2
  apply wp_loop_rounds 5
  rw [rounds_succ]
  go_wp2
  rw [rounds_succ]
  go_wp2
  rw [rounds_succ]
  go_wp2
  rw [rounds_succ]
  go_wp2
  rw [rounds_succ]
  go_wp2
  exact ⟨rfl, _, results_cell_row rfl _ _ (w.heap.size + 1) 46 _ _ _ rfl (heap4 _ _ _ _ _) Ybaf.underlying46 rfl (by kernel_rfl), rfl, below4 _ _ _ _ _⟩

end Go.Proofs.YbulkegvaFmt
