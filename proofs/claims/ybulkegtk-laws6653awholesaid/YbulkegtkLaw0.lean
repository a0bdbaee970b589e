import Derived.Test.YbulkegtkLaw
namespace Go.Proofs.Ybulkegtk
open Go.RowKit
set_option linter.unusedVariables false

set_option maxRecDepth 100000 in
set_option maxHeartbeats 1600000 in
theorem law_long (addr : ByteArray) (fs : Array Value) (ia : Option Addr) (n c : Nat) (fv : Value) (w : World) (hn : 65536 < n) :
    Calls Yba.prog 3 #[.string addr, .agg fs, .slice ia n c, fv] w fun e w' => e = .returned (.bool true) ∧ Below w.heap.size w w' := by
  go_enter Yba.func3, Yba.ntmps3
  go_wp2
  go_ret
  exact ⟨rfl, (Below.refl _ _).alloc (Nat.le_refl _) _⟩

set_option maxRecDepth 100000 in
set_option maxHeartbeats 3200000 in
theorem law_nil (addr : ByteArray) (fs : Array Value) (fv : Value) (w : World) (hfs : fs.size = 32) (hfb : ∀ i, i < 32 → ∃ x, fs[i]? = some (.int .u8 x) ∧ (Lit.int .u8 x).wf = true) :
    Calls Yba.prog 3 #[.string addr, .agg fs, .slice none 0 0, fv] w fun e w' => e = .returned (.bool true) ∧ Below w.heap.size w w' := by
  have n23 := fun w a n c => run_neq_slice_nil_any (P := Yba.prog) w 23 21 a n c 0 0 Yba.underlying23
  have n25 := fun w a n c => run_neq_slice_nil_any (P := Yba.prog) w 25 26 a n c 0 0 Yba.underlying25
  obtain ⟨w0, hw0⟩ : ∃ w0, w0 = (w.alloc (.cells fs 22)).alloc (.cells #[.slice none 0 0] 23) := ⟨_, rfl⟩
  have h0 : w0.heap.size = w.heap.size + 2 := by rw [hw0]; simp
  have hF1 : w0.heap[w.heap.size]? = some (.cells fs 22 (0, 0)) := fp_block hw0 (Below.refl _ _)
  have hcF : ∀ i, i < 32 → ((w.alloc (.cells fs 22)).alloc (.cells #[.slice none 0 0] 23)).cell? ⟨w.heap.size, 0 + i, none⟩ = fs[i]? := fun i hi => by rw [← hw0, cell_of_block hF1, Nat.zero_add]
  obtain ⟨R, hRe⟩ : ∃ R, R = w.heap.size + 1 + 1 := ⟨_, rfl⟩
  have hRw : R = w0.heap.size := by omega
  have HRb : Hid (w.heap.size + 2 ≤ R) := hid (by omega)
  have HCall := hid (close_none R (w.heap.size + 1) (w.heap.size + 2) (RC addr fs (.slice none 0 0)) [] (((w.alloc (.cells fs 22)).alloc (.cells #[.slice none 0 0] 23)).alloc (.cells (RC addr fs (.slice none 0 0)) 47))
    (by rw [← hw0, hRw]; exact heap_alloc_new w0 _) (RC_at addr fs _ hfs).2.2.2.2.1 (RC_at addr fs _ hfs).2.2.2.2.2 (by rw [← hw0]; exact log_start hw0 (Below.refl _ _)) (by simp) (by omega) (by omega))
  have HBel : Hid (Below w.heap.size w (((w.alloc (.cells fs 22)).alloc (.cells #[.slice none 0 0] 23)).alloc (.cells (RC addr fs (.slice none 0 0)) 47))) := (((Below.refl _ _).alloc (Nat.le_refl _) _).alloc (by simp) _).alloc (by simp; omega) _
  have HF1 : Hid ((((w.alloc (.cells fs 22)).alloc (.cells #[.slice none 0 0] 23)).alloc (.cells (RC addr fs (.slice none 0 0)) 47)).heap[w.heap.size]? = some (.cells fs 22 (0, 0))) := hid (by rw [← hw0]; exact (Below.heap_alloc w0 _ _ (lt_of_block hF1)).trans hF1)
  have HRs : Hid ((((w.alloc (.cells fs 22)).alloc (.cells #[.slice none 0 0] 23)).alloc (.cells (RC addr fs (.slice none 0 0)) 47)).heap.size = R + 1) := hid (by rw [hRe]; simp)
  clear hF1 hRw hw0 h0
  go_enter Yba.func3, Yba.ntmps3
  go_wp2_with (first | (refine wpList_load_fp rfl (.tmp 5) rfl w.heap.size 0 rfl fs hfs hcF ?_) | (refine wpList_build _ rfl 47 _ rfl [(0, .string addr), (2, .agg fs), (3, .int .i64 30000000000), (5, .slice none 0 0)] (by simp [Act.eval]) _ (built47 addr fs none 0 0 hfs) ?_))
  rw [← hRe]
  clear hRe
  refine HCall.out.mono ?_
  clear HCall hcF
  rintro e w2 ⟨rfl, hcl⟩
  obtain ⟨cs2, haf⟩ := after_of hfs hcl HF1.out
  have c37 : w2.cell? ⟨R, 37, none⟩ = some (.slice none 0 0) := by rw [cell_of_block haf.hR]; exact haf.a37
  have c35 : w2.cell? ⟨R, 35, none⟩ = some (.int .i32 0) := by rw [cell_of_block haf.hR]; exact haf.a35
  have f35 : w2.frozen? ⟨R, 35, none⟩ = false := free_of_block haf.hR
  have HL : Hid (Log w2 (w.heap.size + 1) (w.heap.size + 2) []) := hcl.log
  have HBel2 : Hid (Below w.heap.size w w2) := HBel.out.trans (hcl.below (by omega) (by omega))
  have HS2 : Hid (R + 1 ≤ w2.heap.size) := hid (by have := hcl.size; rw [HRs.out] at this; exact this)
  have HA := hid haf
  clear hcl HBel HF1 haf HRs
  go_wp2_with fail
  refine (try_free ⟨R, 35, none⟩ _ c35 f35).mono ?_
  rintro e w' ⟨rfl, rfl⟩
  go_wp2_with fail
  refine (unlock ⟨R, 35, none⟩ _ (World.cell?_setCell_same _ _ _ c35) (by simp [f35])).mono ?_
  rintro e w' ⟨rfl, rfl⟩
  rw [setCell_back HA.out.hR HA.out.a35]
  go_wp2_with fail
  have c0 := HA.out.c0
  have c1 := HA.out.c1
  have c34 := HA.out.c34
  have e22 := eq22 fs hfs hfb
  refine wp_region_quiet_lit (by kernel_rfl) (by kernel_rfl) ?_
  iterate 10 (go_big_quiet_step (fail))
  go_big_quiet_want
  refine quiet_load_fp (.tmp 83) rfl R 2 rfl fs hfs HA.out.cf ?_
  simp only [Act.put, List.setIfInBounds_toArray, List.set_cons_succ, List.set_cons_zero]
  go_big_quiet_on
  go_big_quiet_want
  refine quiet_load_fp (.tmp 5) rfl w.heap.size 0 rfl fs hfs HA.out.cF ?_
  simp only [Act.put, List.setIfInBounds_toArray, List.set_cons_succ, List.set_cons_zero]
  go_big_quiet_on
  repeat (go_big_quiet_step (fail))
  refine wpQuiet_nil ?_
  rintro _ ⟨nq, rfl⟩
  obtain ⟨la, lc, cL, _⟩ := HL.out.form
  rw [show ([] : List Int).length = 0 from rfl] at cL
  clear e22 c0 c1 c34
  go_wp2_with fail
  clear f35 c35
  refine wp_loop_rounds 1 ?_
  rw [rounds_succ]
  go_wp2_with fail
  refine (close_none R (w.heap.size + 1) (w.heap.size + 2) cs2 [] (w2.drewN nq) HA.out.hR HA.out.a35 HA.out.a37 HL.out ?_ HRb.out (by omega)).mono ?_
  · have := HS2.out; have := HRb.out; show _ ≤ w2.heap.size; omega
  rintro e w5 ⟨rfl, hcl5⟩
  have c375 : w5.cell? ⟨R, 37, none⟩ = some (.slice none 0 0) := by obtain ⟨cs5, hR5, _, h5, _⟩ := hcl5.rem; rw [cell_of_block hR5]; exact h5
  obtain ⟨la5, lc5, cL5, _⟩ := hcl5.log.form
  simp only [List.append_nil, List.length_nil] at cL5
  have HFin : Hid (Below w.heap.size w w5) := (below_drewN' HBel2.out nq).trans ((hcl5.below (B := w.heap.size) (by omega) (by omega)))
  clear hcl5 HBel2 HA HL
  go_wp2
  go_ret
  exact ⟨rfl, HFin.out⟩

set_option maxRecDepth 100000 in
set_option maxHeartbeats 3200000 in
theorem law_zero (addr : ByteArray) (fs : Array Value) (ad : Addr) (c : Nat) (fv : Value) (w : World) (hfs : fs.size = 32) (hfb : ∀ i, i < 32 → ∃ x, fs[i]? = some (.int .u8 x) ∧ (Lit.int .u8 x).wf = true) :
    Calls Yba.prog 3 #[.string addr, .agg fs, .slice (some ad) 0 c, fv] w fun e w' => e = .returned (.bool true) ∧ Below w.heap.size w w' := by
  have n23 := fun w a n c => run_neq_slice_nil_any (P := Yba.prog) w 23 21 a n c 0 0 Yba.underlying23
  have n25 := fun w a n c => run_neq_slice_nil_any (P := Yba.prog) w 25 26 a n c 0 0 Yba.underlying25
  obtain ⟨i0, hi0, hz0, hz1, hz2⟩ := info_parts info26
  obtain ⟨w0, hw0⟩ : ∃ w0, w0 = (w.alloc (.cells fs 22)).alloc (.cells #[.slice none 0 0] 23) := ⟨_, rfl⟩
  have h0 : w0.heap.size = w.heap.size + 2 := by rw [hw0]; simp
  go_enter Yba.func3, Yba.ntmps3
  go_wp2_with (refine wpList_make_own _ rfl _ _ 25 rfl (w.heap.size + 2) 26 i0 (.pointer none) 1 Yba.underlying25 hi0 hz0 hz1 .i64 .i64 _ 0 rfl rfl rfl (by omega) (by unfold maxLen; omega) (by simp) ?_; intro wm hown hgrow)
  have HB : Hid (Building w0 w.heap.size [] 0 (.slice (some ⟨w.heap.size + 1 + 1, 0, none⟩) 0 0) wm) := building_start hw0 hown hgrow
  clear hown hgrow
  refine wp_loop_rounds 1 ?_
  rw [rounds_succ]
  obtain ⟨ps, g, cap, hv, hown, hC, hB, _⟩ := HB.out
  have hs0 : w.heap.size + 2 ≤ wm.heap.size := by have := hB.size; omega
  have hF1 : wm.heap[w.heap.size]? = some (.cells fs 22 (0, 0)) := fp_block hw0 hB
  have hcF : ∀ i, i < 32 → wm.cell? ⟨w.heap.size, 0 + i, none⟩ = fs[i]? := fun i hi => by rw [cell_of_block hF1, Nat.zero_add]
  simp only [Value.slice.injEq, Option.some.injEq, Addr.mk.injEq] at hv
  obtain ⟨⟨rfl, _⟩, _, rfl⟩ := hv
  have HCall := hid (close_some wm.heap.size (w.heap.size + 1) (w.heap.size + 2) (w.heap.size + 1 + 1) 0 0 (RC addr fs (.slice (some ⟨w.heap.size + 1 + 1, 0, none⟩) 0 0)) [] [] ps (wm.alloc (.cells (RC addr fs (.slice (some ⟨w.heap.size + 1 + 1, 0, none⟩) 0 0)) 47))
    (heap_alloc_new wm _) (RC_at addr fs _ hfs).2.2.2.2.1 (RC_at addr fs _ hfs).2.2.2.2.2 (hown.alloc _) rfl (by exact hC.alloc _) (log_start hw0 hB) (by simp; omega) (by omega) (by omega) (by simp))
  have HBel : Hid (Below w.heap.size w (wm.alloc (.cells (RC addr fs (.slice (some ⟨w.heap.size + 1 + 1, 0, none⟩) 0 0)) 47))) := (below_w hw0 hB).alloc (by omega) _
  have HF1 : Hid ((wm.alloc (.cells (RC addr fs (.slice (some ⟨w.heap.size + 1 + 1, 0, none⟩) 0 0)) 47)).heap[w.heap.size]? = some (.cells fs 22 (0, 0))) := (Below.heap_alloc wm _ _ (lt_of_block hF1)).trans hF1
  clear hown hC hB hF1 HB
  obtain ⟨R, hRe⟩ : ∃ R, R = wm.heap.size := ⟨_, rfl⟩
  have HRb : Hid (w.heap.size + 2 ≤ R) := hid (by omega)
  go_wp2_with (first | (refine wpList_load_fp rfl (.tmp 5) rfl w.heap.size 0 rfl fs hfs hcF ?_) | (refine wpList_build _ rfl 47 _ rfl [(0, .string addr), (2, .agg fs), (3, .int .i64 30000000000), (5, .slice (some ⟨w.heap.size + 1 + 1, 0, none⟩) 0 0)] (by simp [Act.eval]) _ (built47 addr fs (some ⟨w.heap.size + 1 + 1, 0, none⟩) 0 0 hfs) ?_))
  have HRs : Hid ((wm.alloc (.cells (RC addr fs (.slice (some ⟨w.heap.size + 1 + 1, 0, none⟩) 0 0)) 47)).heap.size = R + 1) := hid (by rw [hRe]; simp)
  rw [← hRe] at HCall ⊢
  clear hRe
  refine HCall.out.mono ?_
  clear HCall hcF hs0
  rintro e w2 ⟨rfl, hcl⟩
  obtain ⟨cs2, haf⟩ := after_of hfs hcl HF1.out
  have c37 : w2.cell? ⟨R, 37, none⟩ = some (.slice none 0 0) := by rw [cell_of_block haf.hR]; exact haf.a37
  have c35 : w2.cell? ⟨R, 35, none⟩ = some (.int .i32 0) := by rw [cell_of_block haf.hR]; exact haf.a35
  have f35 : w2.frozen? ⟨R, 35, none⟩ = false := free_of_block haf.hR
  have HL : Hid (Log w2 (w.heap.size + 1) (w.heap.size + 2) []) := hcl.log
  have HBel2 : Hid (Below w.heap.size w w2) := HBel.out.trans (hcl.below (by omega) (by omega))
  have HS2 : Hid (R + 1 ≤ w2.heap.size) := hid (by have := hcl.size; rw [HRs.out] at this; exact this)
  have HA := hid haf
  clear hcl HBel HF1 haf HRs
  go_wp2_with fail
  refine (try_free ⟨R, 35, none⟩ _ c35 f35).mono ?_
  rintro e w' ⟨rfl, rfl⟩
  go_wp2_with fail
  refine (unlock ⟨R, 35, none⟩ _ (World.cell?_setCell_same _ _ _ c35) (by simp [f35])).mono ?_
  rintro e w' ⟨rfl, rfl⟩
  rw [setCell_back HA.out.hR HA.out.a35]
  go_wp2_with fail
  have c0 := HA.out.c0
  have c1 := HA.out.c1
  have c34 := HA.out.c34
  have e22 := eq22 fs hfs hfb
  refine wp_region_quiet_lit (by kernel_rfl) (by kernel_rfl) ?_
  iterate 10 (go_big_quiet_step (fail))
  go_big_quiet_want
  refine quiet_load_fp (.tmp 83) rfl R 2 rfl fs hfs HA.out.cf ?_
  simp only [Act.put, List.setIfInBounds_toArray, List.set_cons_succ, List.set_cons_zero]
  go_big_quiet_on
  go_big_quiet_want
  refine quiet_load_fp (.tmp 5) rfl w.heap.size 0 rfl fs hfs HA.out.cF ?_
  simp only [Act.put, List.setIfInBounds_toArray, List.set_cons_succ, List.set_cons_zero]
  go_big_quiet_on
  repeat (go_big_quiet_step (fail))
  refine wpQuiet_nil ?_
  rintro _ ⟨nq, rfl⟩
  obtain ⟨la, lc, cL, _⟩ := HL.out.form
  rw [show ([] : List Int).length = 0 from rfl] at cL
  clear e22 c0 c1 c34
  go_wp2_with fail
  clear f35 c35
  refine wp_loop_rounds 1 ?_
  rw [rounds_succ]
  go_wp2_with fail
  refine (close_none R (w.heap.size + 1) (w.heap.size + 2) cs2 [] (w2.drewN nq) HA.out.hR HA.out.a35 HA.out.a37 HL.out ?_ HRb.out (by omega)).mono ?_
  · have := HS2.out; have := HRb.out; show _ ≤ w2.heap.size; omega
  rintro e w5 ⟨rfl, hcl5⟩
  have c375 : w5.cell? ⟨R, 37, none⟩ = some (.slice none 0 0) := by obtain ⟨cs5, hR5, _, h5, _⟩ := hcl5.rem; rw [cell_of_block hR5]; exact h5
  obtain ⟨la5, lc5, cL5, _⟩ := hcl5.log.form
  simp only [List.append_nil, List.length_nil] at cL5
  have HFin : Hid (Below w.heap.size w w5) := (below_drewN' HBel2.out nq).trans ((hcl5.below (B := w.heap.size) (by omega) (by omega)))
  clear hcl5 HBel2 HA HL
  go_wp2
  go_ret
  exact ⟨rfl, HFin.out⟩

end Go.Proofs.Ybulkegtk
