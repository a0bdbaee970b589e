/-
  DERIVED. zzs6656bref: small facts.
-/
import Derived.Test.YbulkegvaFmtMem
set_option linter.unusedVariables false
namespace Go.Proofs.YbulkegvaFmt
open Go.RowKit Go.Extern.Stop Go.Stop Go.Extern
attribute [local go_sem] Ybaf.call13 Ybaf.guard Ybaf.fmt0 Ybaf.fmt0r Ybaf.fmt1 Ybaf.fmt1r Ybaf.fmt2 Ybaf.fmt2r Ybaf.fmt3 Ybaf.fmt3r Ybaf.fmt4 Ybaf.fmt4r
attribute [local go_sem] Ybaf.act3_100 Ybaf.op3_100 Ybaf.str3 Ybaf.act9_115 Ybaf.op9_115 Ybaf.str9 Ybaf.asNil_9 Ybaf.as9_9 Ybaf.as4_9 Ybaf.as23_9 Ybaf.as24_9 Ybaf.as72_9
attribute [local go_sem] Ybaf.asNil_4 Ybaf.as9_4 Ybaf.as4_4 Ybaf.as23_4 Ybaf.as24_4 Ybaf.as72_4 Ybaf.asNil_23 Ybaf.as9_23 Ybaf.as4_23 Ybaf.as23_23 Ybaf.as24_23 Ybaf.as72_23
attribute [local go_sem] Ybaf.asNil_24 Ybaf.as9_24 Ybaf.as4_24 Ybaf.as23_24 Ybaf.as24_24 Ybaf.as72_24 Ybaf.as37_37 Ybaf.isIface20 Ybaf.isIface33

theorem heap3 (w : World) (A B C : Obj) : (((w.alloc A).alloc B).alloc C).heap[w.heap.size + 1]? = some B := by
  rw [Below.heap_alloc ((w.alloc A).alloc B) C (w.heap.size + 1) (by simp)]
  exact heap_alloc2_new w A B
theorem heap4 (w : World) (A B C D : Obj) : ((((w.alloc A).alloc B).alloc C).alloc D).heap[w.heap.size + 1]? = some B := by
  rw [Below.heap_alloc (((w.alloc A).alloc B).alloc C) D (w.heap.size + 1) (by simp)]
  exact heap3 w A B C
theorem below3 (w : World) (A B C : Obj) : Below w.heap.size w (((w.alloc A).alloc B).alloc C) :=
  (((Below.refl _ w).alloc (Nat.le_refl _) _).alloc (by simp) _).alloc (by simp; omega) _
theorem below4 (w : World) (A B C D : Obj) : Below w.heap.size w ((((w.alloc A).alloc B).alloc C).alloc D) :=
  (below3 w A B C).alloc (by simp; omega) _

set_option maxHeartbeats 1600000 in
theorem ref_2 (k t0 t1 t2 t3 ct bt : Int) (s0 s1 s2 s3 : ByteArray) (cb bb : Bool) (w : World) (h2 : k.tmod 4 = 2) :
    Calls Ybaf.prog 7 #[.agg #[.int .u8 k, .int .u8 t0, .string s0, .int .u8 t1, .string s1, .int .u8 t2, .string s2, .int .u8 t3, .string s3, .int .u8 ct, .bool cb, .int .u8 bt, .bool bb]] w fun e w' => e = .returned (.agg #[.string ⟨#[]⟩, .string ⟨#[]⟩, .string ⟨#[]⟩, .string ⟨#[]⟩, .bool false]) ∧ Below w.heap.size w w' := by
  go_enter Ybaf.func7, Ybaf.ntmps7
  go_wp2
  exact ⟨rfl, _, results_cell_row rfl _ _ (w.heap.size + 1) 46 _ _ _ rfl (heap3 _ _ _ _) Ybaf.underlying46 rfl (by kernel_rfl), rfl, below3 _ _ _ _⟩

end Go.Proofs.YbulkegvaFmt
