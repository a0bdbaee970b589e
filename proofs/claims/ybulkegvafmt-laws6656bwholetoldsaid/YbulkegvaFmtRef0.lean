/-
  DERIVED. zzs6656bref: ways 0.
-/
import Derived.Test.YbulkegvaFmtRefH
set_option linter.unusedVariables false
namespace Go.Proofs.YbulkegvaFmt
open Go.RowKit Go.Extern.Stop Go.Stop Go.Extern
attribute [local go_sem] Ybaf.call13 Ybaf.guard Ybaf.fmt0 Ybaf.fmt0r Ybaf.fmt1 Ybaf.fmt1r Ybaf.fmt2 Ybaf.fmt2r Ybaf.fmt3 Ybaf.fmt3r Ybaf.fmt4 Ybaf.fmt4r
attribute [local go_sem] Ybaf.act3_100 Ybaf.op3_100 Ybaf.str3 Ybaf.act9_115 Ybaf.op9_115 Ybaf.str9 Ybaf.asNil_9 Ybaf.as9_9 Ybaf.as4_9 Ybaf.as23_9 Ybaf.as24_9 Ybaf.as72_9
attribute [local go_sem] Ybaf.asNil_4 Ybaf.as9_4 Ybaf.as4_4 Ybaf.as23_4 Ybaf.as24_4 Ybaf.as72_4 Ybaf.asNil_23 Ybaf.as9_23 Ybaf.as4_23 Ybaf.as23_23 Ybaf.as24_23 Ybaf.as72_23
attribute [local go_sem] Ybaf.asNil_24 Ybaf.as9_24 Ybaf.as4_24 Ybaf.as23_24 Ybaf.as24_24 Ybaf.as72_24 Ybaf.as37_37 Ybaf.isIface20 Ybaf.isIface33

set_option maxHeartbeats 1600000 in
theorem ref_yyyyy (k t0 t1 t2 t3 ct bt : Int) (s0 s1 s2 s3 : ByteArray) (cb bb : Bool) (w : World) (h2 : ¬ k.tmod 4 = 2) (g0 : t0.tmod 4 = 2) (g1 : t1.tmod 4 = 2) (g2 : t2.tmod 4 = 2) (g3 : t3.tmod 4 = 2) (g4 : ct.tmod 4 = 2) :
    Calls Ybaf.prog 7 #[.agg #[.int .u8 k, .int .u8 t0, .string s0, .int .u8 t1, .string s1, .int .u8 t2, .string s2, .int .u8 t3, .string s3, .int .u8 ct, .bool cb, .int .u8 bt, .bool bb]] w fun e w' => e = .returned (.agg #[.string s0, .string s1, .string s2, .string s3, .bool cb]) ∧ Below w.heap.size w w' := by
  go_enter Ybaf.func7, Ybaf.ntmps7
  go_wp2
  apply wp_loop_rounds 5
  rw [rounds_succ]
  go_wp2
  rw [rounds_succ]
  go_wp2
  rw [rounds_succ]
  go_wp2
  rw [rounds_succ]
  go_wp2
  rw [rounds_succ]
  go_wp2
  exact ⟨rfl, _, results_cell_row rfl _ _ (w.heap.size + 1) 46 _ _ _ rfl (heap4 _ _ _ _ _) Ybaf.underlying46 rfl (by kernel_rfl), rfl, below4 _ _ _ _ _⟩

set_option maxHeartbeats 1600000 in
theorem ref_yyyyn (k t0 t1 t2 t3 ct bt : Int) (s0 s1 s2 s3 : ByteArray) (cb bb : Bool) (w : World) (h2 : ¬ k.tmod 4 = 2) (g0 : t0.tmod 4 = 2) (g1 : t1.tmod 4 = 2) (g2 : t2.tmod 4 = 2) (g3 : t3.tmod 4 = 2) (g4 : ¬ ct.tmod 4 = 2) :
    Calls Ybaf.prog 7 #[.agg #[.int .u8 k, .int .u8 t0, .string s0, .int .u8 t1, .string s1, .int .u8 t2, .string s2, .int .u8 t3, .string s3, .int .u8 ct, .bool cb, .int .u8 bt, .bool bb]] w fun e w' => e = .returned (.agg #[.string s0, .string s1, .string s2, .string s3, .bool false]) ∧ Below w.heap.size w w' := by
  go_enter Ybaf.func7, Ybaf.ntmps7
  go_wp2
  apply wp_loop_rounds 5
  rw [rounds_succ]
  go_wp2
  rw [rounds_succ]
  go_wp2
  rw [rounds_succ]
  go_wp2
  rw [rounds_succ]
  go_wp2
  rw [rounds_succ]
  go_wp2
  exact ⟨rfl, _, results_cell_row rfl _ _ (w.heap.size + 1) 46 _ _ _ rfl (heap4 _ _ _ _ _) Ybaf.underlying46 rfl (by kernel_rfl), rfl, below4 _ _ _ _ _⟩

set_option maxHeartbeats 1600000 in
theorem ref_yyyny (k t0 t1 t2 t3 ct bt : Int) (s0 s1 s2 s3 : ByteArray) (cb bb : Bool) (w : World) (h2 : ¬ k.tmod 4 = 2) (g0 : t0.tmod 4 = 2) (g1 : t1.tmod 4 = 2) (g2 : t2.tmod 4 = 2) (g3 : ¬ t3.tmod 4 = 2) (g4 : ct.tmod 4 = 2) :
    Calls Ybaf.prog 7 #[.agg #[.int .u8 k, .int .u8 t0, .string s0, .int .u8 t1, .string s1, .int .u8 t2, .string s2, .int .u8 t3, .string s3, .int .u8 ct, .bool cb, .int .u8 bt, .bool bb]] w fun e w' => e = .returned (.agg #[.string s0, .string s1, .string s2, .string ⟨#[]⟩, .bool cb]) ∧ Below w.heap.size w w' := by
  go_enter Ybaf.func7, Ybaf.ntmps7
  go_wp2
  apply wp_loop_rounds 5
  rw [rounds_succ]
  go_wp2
  rw [rounds_succ]
  go_wp2
  rw [rounds_succ]
  go_wp2
  rw [rounds_succ]
  go_wp2
  rw [rounds_succ]
  go_wp2
  exact ⟨rfl, _, results_cell_row rfl _ _ (w.heap.size + 1) 46 _ _ _ rfl (heap4 _ _ _ _ _) Ybaf.underlying46 rfl (by kernel_rfl), rfl, below4 _ _ _ _ _⟩

set_option maxHeartbeats 1600000 in
theorem ref_yyynn (k t0 t1 t2 t3 ct bt : Int) (s0 s1 s2 s3 : ByteArray) (cb bb : Bool) (w : World) (h2 : ¬ k.tmod 4 = 2) (g0 : t0.tmod 4 = 2) (g1 : t1.tmod 4 = 2) (g2 : t2.tmod 4 = 2) (g3 : ¬ t3.tmod 4 = 2) (g4 : ¬ ct.tmod 4 = 2) :
    Calls Ybaf.prog 7 #[.agg #[.int .u8 k, .int .u8 t0, .string s0, .int .u8 t1, .string s1, .int .u8 t2, .string s2, .int .u8 t3, .string s3, .int .u8 ct, .bool cb, .int .u8 bt, .bool bb]] w fun e w' => e = .returned (.agg #[.string s0, .string s1, .string s2, .string ⟨#[]⟩, .bool false]) ∧ Below w.heap.size w w' := by
  go_enter Ybaf.func7, Ybaf.ntmps7
  go_wp2
  apply wp_loop_rounds 5
  rw [rounds_succ]
  go_wp2
  rw [rounds_succ]
  go_wp2
  rw [rounds_succ]
  go_wp2
  rw [rounds_succ]
  go_wp2
  rw [rounds_succ]
  go_wp2
  exact ⟨rfl, _, results_cell_row rfl _ _ (w.heap.size + 1) 46 _ _ _ rfl (heap4 _ _ _ _ _) Ybaf.underlying46 rfl (by kernel_rfl), rfl, below4 _ _ _ _ _⟩

set_option maxHeartbeats 1600000 in
theorem ref_yynyy (k t0 t1 t2 t3 ct bt : Int) (s0 s1 s2 s3 : ByteArray) (cb bb : Bool) (w : World) (h2 : ¬ k.tmod 4 = 2) (g0 : t0.tmod 4 = 2) (g1 : t1.tmod 4 = 2) (g2 : ¬ t2.tmod 4 = 2) (g3 : t3.tmod 4 = 2) (g4 : ct.tmod 4 = 2) :
    Calls Ybaf.prog 7 #[.agg #[.int .u8 k, .int .u8 t0, .string s0, .int .u8 t1, .string s1, .int .u8 t2, .string s2, .int .u8 t3, .string s3, .int .u8 ct, .bool cb, .int .u8 bt, .bool bb]] w fun e w' => e = .returned (.agg #[.string s0, .string s1, .string ⟨#[]⟩, .string s3, .bool cb]) ∧ Below w.heap.size w w' := by
  go_enter Ybaf.func7, Ybaf.ntmps7
  go_wp2
  apply wp_loop_rounds 5
  rw [rounds_succ]
  go_wp2
  rw [rounds_succ]
  go_wp2
  rw [rounds_succ]
  go_wp2
  rw [rounds_succ]
  go_wp2
  rw [rounds_succ]
  go_wp2
  exact ⟨rfl, _, results_cell_row rfl _ _ (w.heap.size + 1) 46 _ _ _ rfl (heap4 _ _ _ _ _) Ybaf.underlying46 rfl (by kernel_rfl), rfl, below4 _ _ _ _ _⟩

set_option maxHeartbeats 1600000 in
theorem ref_yynyn (k t0 t1 t2 t3 ct bt : Int) (s0 s1 s2 s3 : ByteArray) (cb bb : Bool) (w : World) (h2 : ¬ k.tmod 4 = 2) (g0 : t0.tmod 4 = 2) (g1 : t1.tmod 4 = 2) (g2 : ¬ t2.tmod 4 = 2) (g3 : t3.tmod 4 = 2) (g4 : ¬ ct.tmod 4 = 2) :
    Calls Ybaf.prog 7 #[.agg #[.int .u8 k, .int .u8 t0, .string s0, .int .u8 t1, .string s1, .int .u8 t2, .string s2, .int .u8 t3, .string s3, .int .u8 ct, .bool cb, .int .u8 bt, .bool bb]] w fun e w' => e = .returned (.agg #[.string s0, .string s1, .string ⟨#[]⟩, .string s3, .bool false]) ∧ Below w.heap.size w w' := by
  go_enter Ybaf.func7, Ybaf.ntmps7
  go_wp2
  apply wp_loop_rounds 5
  rw [rounds_succ]
  go_wp2
  rw [rounds_succ]
  go_wp2
  rw [rounds_succ]
  go_wp2
  rw [rounds_succ]
  go_wp2
  rw [rounds_succ]
  go_wp2
  exact ⟨rfl, _, results_cell_row rfl _ _ (w.heap.size + 1) 46 _ _ _ rfl (heap4 _ _ _ _ _) Ybaf.underlying46 rfl (by kernel_rfl), rfl, below4 _ _ _ _ _⟩

set_option maxHeartbeats 1600000 in
theorem ref_yynny (k t0 t1 t2 t3 ct bt : Int) (s0 s1 s2 s3 : ByteArray) (cb bb : Bool) (w : World) (h2 : ¬ k.tmod 4 = 2) (g0 : t0.tmod 4 = 2) (g1 : t1.tmod 4 = 2) (g2 : ¬ t2.tmod 4 = 2) (g3 : ¬ t3.tmod 4 = 2) (g4 : ct.tmod 4 = 2) :
    Calls Ybaf.prog 7 #[.agg #[.int .u8 k, .int .u8 t0, .string s0, .int .u8 t1, .string s1, .int .u8 t2, .string s2, .int .u8 t3, .string s3, .int .u8 ct, .bool cb, .int .u8 bt, .bool bb]] w fun e w' => e = .returned (.agg #[.string s0, .string s1, .string ⟨#[]⟩, .string ⟨#[]⟩, .bool cb]) ∧ Below w.heap.size w w' := by
  go_enter Ybaf.func7, Ybaf.ntmps7
  go_wp2
  apply wp_loop_rounds 5
  rw [rounds_succ]
  go_wp2
  rw [rounds_succ]
  go_wp2
  rw [rounds_succ]
  go_wp2
  rw [rounds_succ]
  go_wp2
  rw [rounds_succ]
  go_wp2
  exact ⟨rfl, _, results_cell_row rfl _ _ (w.heap.size + 1) 46 _ _ _ rfl (heap4 _ _ _ _ _) Ybaf.underlying46 rfl (by kernel_rfl), rfl, below4 _ _ _ _ _⟩

set_option maxHeartbeats 1600000 in
theorem ref_yynnn (k t0 t1 t2 t3 ct bt : Int) (s0 s1 s2 s3 : ByteArray) (cb bb : Bool) (w : World) (h2 : ¬ k.tmod 4 = 2) (g0 : t0.tmod 4 = 2) (g1 : t1.tmod 4 = 2) (g2 : ¬ t2.tmod 4 = 2) (g3 : ¬ t3.tmod 4 = 2) (g4 : ¬ ct.tmod 4 = 2) :
    Calls Ybaf.prog 7 #[.agg #[.int .u8 k, .int .u8 t0, .string s0, .int .u8 t1, .string s1, .int .u8 t2, .string s2, .int .u8 t3, .string s3, .int .u8 ct, .bool cb, .int .u8 bt, .bool bb]] w fun e w' => e = .returned (.agg #[.string s0, .string s1, .string ⟨#[]⟩, .string ⟨#[]⟩, .bool false]) ∧ Below w.heap.size w w' := by
  go_enter Ybaf.func7, Ybaf.ntmps7
  go_wp2
  apply wp_loop_rounds 5
  rw [rounds_succ]
  go_wp2
  rw [rounds_succ]
  go_wp2
  rw [rounds_succ]
  go_wp2
  rw [rounds_succ]
  go_wp2
  rw [rounds_succ]
  go_wp2
  exact ⟨rfl, _, results_cell_row rfl _ _ (w.heap.size + 1) 46 _ _ _ rfl (heap4 _ _ _ _ _) Ybaf.underlying46 rfl (by kernel_rfl), rfl, below4 _ _ _ _ _⟩

end Go.Proofs.YbulkegvaFmt
