import Derived.Test.YbulkegtkParts
import Derived.Deep.QuietTactic
import Derived.BigQuiet
namespace Go.Proofs.Ybulkegtk
open Go.RowKit
set_option linter.unusedVariables false

/-- The slice 'fails' as the walk reads it. -/
def FailsAt (w : World) (fa : Option Addr) (fl : Nat) : Prop := fl = 0 ∨ ∃ fb fo, fa = some ⟨fb, fo, none⟩ ∧ fb < w.heap.size ∧ ∀ j, j < fl → ∃ b, w.cell? ⟨fb, fo + j, none⟩ = some (.bool b)

theorem news1 (w : World) (v : Value) (t : TypeId) (N : Nat) (h : w.heap.size = N) : ∀ j u, [v][j]? = some u → (w.alloc (.cells #[v] t)).cell? ((⟨N, 0, none⟩ : Addr).add j) = some u := by
  subst h
  exact World.news_of_block (cs := #[v]) (t := t) (fr := (0, 0)) (heap_alloc_new w _)
theorem one1 (v : Value) (h : v.oneCell' = true) : ∀ u ∈ [v], u.oneCell' = true := by
  intro u hu; simp at hu; subst hu; exact h

theorem below_drewN' {B : Nat} {a w : World} (h : Below B a w) (n : Nat) : Below B a (w.drewN n) := ⟨h.os, h.tape, h.output, h.size, h.block⟩
theorem hid {p : Prop} (h : p) : Hid p := h
theorem fp_block {w w0 wr : World} {fs : Array Value} (hw0 : w0 = (w.alloc (.cells fs 22)).alloc (.cells #[.slice none 0 0] 23)) (h : Below (w.heap.size + 2) w0 wr) : wr.heap[w.heap.size]? = some (.cells fs 22 (0, 0)) := by
  rw [h.block _ (by omega), hw0, Below.heap_alloc _ _ _ (by simp)]
  exact heap_alloc_new w _
theorem log_start {w w0 wr : World} {fs : Array Value} {o : Obj} (hw0 : w0 = (w.alloc (.cells fs 22)).alloc (.cells #[.slice none 0 0] 23)) (h : Below (w.heap.size + 2) w0 wr) : Log (wr.alloc o) (w.heap.size + 1) (w.heap.size + 2) [] := by
  have h1 : wr.heap[w.heap.size + 1]? = some (.cells #[.slice none 0 0] 23 (0, 0)) := by
    rw [h.block _ (by omega), hw0]
    have := heap_alloc_new (w.alloc (.cells fs 22)) (.cells #[.slice none 0 0] 23)
    simpa using this
  exact ⟨.slice none 0 0, (Below.heap_alloc wr o _ (lt_of_block h1)).trans h1, World.ownsRow_nil _ _ _ _⟩

theorem building_start {w w0 wm : World} {fs : Array Value} {n : Nat} {ids : List Int} (hw0 : w0 = (w.alloc (.cells fs 22)).alloc (.cells #[.slice none 0 0] 23))
    (hown : wm.ownsRow (w.heap.size + 2) 26 1 (.slice (some ⟨((w.alloc (.cells fs 22)).alloc (.cells #[.slice none 0 0] 23)).heap.size, 0, none⟩) 0 n) 0 []) (hgrow : ((w.alloc (.cells fs 22)).alloc (.cells #[.slice none 0 0] 23)).grownBy wm none) :
    Building w0 w.heap.size ids 0 (.slice (some ⟨w.heap.size + 1 + 1, 0, none⟩) 0 n) wm := by
  have h0 : w0.heap.size = w.heap.size + 2 := by rw [hw0]; simp
  rw [← hw0] at hgrow
  refine ⟨[], w.heap.size + 1 + 1, n, rfl, by simpa using hown, ⟨rfl, fun j p q id hp => by simp at hp⟩, ?_, h0⟩
  exact (Below.refl _ _).grown hgrow (by omega) (fun k e => by cases e)

theorem below_w {w w0 wr : World} {fs : Array Value} (hw0 : w0 = (w.alloc (.cells fs 22)).alloc (.cells #[.slice none 0 0] 23)) (h : Below (w.heap.size + 2) w0 wr) : Below w.heap.size w wr := by
  refine Below.trans ?_ (h.mono (by omega))
  rw [hw0]
  exact ((Below.refl _ _).alloc (Nat.le_refl _) _).alloc (by simp) _

theorem fails_at {w wr : World} {fa : Option Addr} {fl k : Nat} (hF : FailsAt w fa fl) (hk : k < fl) (hb : Below w.heap.size w wr) : ∃ fb fo, fa = some ⟨fb, fo, none⟩ ∧ ∃ b, wr.cell? ⟨fb, fo + k, none⟩ = some (.bool b) := by
  rcases hF with h | ⟨fb, fo, h1, h2, h3⟩
  · omega
  · obtain ⟨b, hc⟩ := h3 k hk
    exact ⟨fb, fo, h1, b, (hb.cell (p := ⟨fb, fo + k, none⟩) h2).trans hc⟩

set_option maxRecDepth 100000 in
set_option maxHeartbeats 3200000 in
theorem law_some (addr : ByteArray) (fs : Array Value) (ib io n c : Nat) (fa : Option Addr) (fl fc : Nat) (ids : List Int) (w : World) (hfs : fs.size = 32) (hfb : ∀ i, i < 32 → ∃ x, fs[i]? = some (.int .u8 x) ∧ (Lit.int .u8 x).wf = true)
    (hn : ids.length = n) (hn0 : 0 < n) (hn1 : n ≤ 65536) (hib : ib < w.heap.size) (hids : ∀ j, j < n → w.cell? ⟨ib, io + j, none⟩ = some (.int .i32 (ids.getD j 0)))
    (hfl : fl ≤ 9223372036854775807) (hF : FailsAt w fa fl) :
    Calls Yba.prog 3 #[.string addr, .agg fs, .slice (some ⟨ib, io, none⟩) n c, .slice fa fl fc] w fun e w' => e = .returned (.bool true) ∧ Below w.heap.size w w' := by
  have n23 := fun w a n c => run_neq_slice_nil_any (P := Yba.prog) w 23 21 a n c 0 0 Yba.underlying23
  have n25 := fun w a n c => run_neq_slice_nil_any (P := Yba.prog) w 25 26 a n c 0 0 Yba.underlying25
  obtain ⟨i0, hi0, hz0, hz1, hz2⟩ := info_parts info26
  obtain ⟨w0, hw0⟩ : ∃ w0, w0 = (w.alloc (.cells fs 22)).alloc (.cells #[.slice none 0 0] 23) := ⟨_, rfl⟩
  have h0 : w0.heap.size = w.heap.size + 2 := by rw [hw0]; simp
  have d65 : decide ((65536 : Int) < (n : Int)) = false := decide_eq_false (by omega)
  go_enter Yba.func3, Yba.ntmps3
  go_wp2_with (refine wpList_make_own _ rfl _ _ 25 rfl (w.heap.size + 2) 26 i0 (.pointer none) 1 Yba.underlying25 hi0 hz0 hz1 .i64 .i64 _ n rfl rfl rfl (by rw [hz2]; omega) (by unfold maxLen; omega) (by simp) ?_; intro wm hown hgrow)
  have HB : Hid (Building w0 w.heap.size ids 0 (.slice (some ⟨w.heap.size + 1 + 1, 0, none⟩) 0 n) wm) := building_start hw0 hown hgrow
  clear hown hgrow
  go_loopw [10, 11] (fun v i wr => ∃ k : Nat, k ≤ n ∧ i = .int .i64 k ∧ Building w0 w.heap.size ids k v wr) (fun _ i _ => n - (intOf i).toNat)
  case atStart => exact ⟨0, Nat.zero_le _, rfl, HB.out⟩
  case round =>
    obtain ⟨k, hk, rfl, ps, g, cap, rfl, hown, hC, hB, _⟩ := hrel
    by_cases hlt : k < n
    · have hbw : Below w.heap.size w wr := below_w hw0 hB
      have hci : wr.cell? ⟨ib, io + k, none⟩ = some (.int .i32 (ids.getD k 0)) := (hbw.cell (p := ⟨ib, io + k, none⟩) hib).trans (hids k hlt)
      have hid : ids[k]? = some (ids.getD k 0) := by simp [List.getD, show k < ids.length by omega]
      generalize ids.getD k 0 = id at hci hid
      have HI : Hid (ids[k]? = some id) := hid
      clear hid
      have hs0 : w.heap.size + 2 ≤ wr.heap.size := by have := hB.size; omega
      have HO : Hid (wr.ownsRow (w.heap.size + 2) 26 1 (.slice (some ⟨g, 0, none⟩) k cap) k (ps.map fun p : Nat × Nat => ptr p.1)) := hown
      have HC : Hid (Conns wr (w.heap.size + 1) (ids.take k) ps) := hC
      have HB' : Hid (Below (w.heap.size + 2) w0 wr) := hB
      clear hown hC hB
      by_cases hkf : k < fl
      · obtain ⟨fb, fo, rfl, b, hcf⟩ := fails_at hF hkf hbw
        clear hbw
        go_wp2_with (at_builtin; refine wpList_append_lies _ rfl (.tmp 39) (.tmp 50) 25 rfl (w.heap.size + 2) 26 i0 (.pointer none) 1 8 Yba.underlying25 hi0 hz0 hz1 hz2 rfl (by omega) (.slice (some ⟨g, 0, none⟩) k cap) k (ps.map fun p : Nat × Nat => ptr p.1) rfl (((HO.out.alloc _).alloc _).alloc _) ⟨wr.heap.size + 1 + 1, 0, none⟩ 1 1 [.pointer (some ⟨wr.heap.size + 1, 0, none⟩)] rfl rfl (news1 _ _ _ _ (by simp)) (one1 _ rfl) (by omega) (by unfold maxLen; omega) (by omega) (by simp; omega) (wr.heap.size + 1 + 1 + 1) (by simp) ?_; intro g' cap' w1 hown1 hgrow hat hlt1)
        have HN : Hid (Building w0 w.heap.size ids (k + 1) (.slice (some ⟨g', 0, none⟩) (k + 1) cap') w1) := building_step HI.out HO.out HC.out HB'.out h0 hown1 hgrow
        clear hown1 hgrow hat hlt1 HO HC HB' HI hci hcf
        go_wp2
        go_roundw
        case rel => exact ⟨k + 1, by omega, by go_num, HN.out⟩
        case measure => simp [intOf]; omega
      · clear hbw
        go_wp2_with (at_builtin; refine wpList_append_lies _ rfl (.tmp 39) (.tmp 50) 25 rfl (w.heap.size + 2) 26 i0 (.pointer none) 1 8 Yba.underlying25 hi0 hz0 hz1 hz2 rfl (by omega) (.slice (some ⟨g, 0, none⟩) k cap) k (ps.map fun p : Nat × Nat => ptr p.1) rfl (((HO.out.alloc _).alloc _).alloc _) ⟨wr.heap.size + 1 + 1, 0, none⟩ 1 1 [.pointer (some ⟨wr.heap.size + 1, 0, none⟩)] rfl rfl (news1 _ _ _ _ (by simp)) (one1 _ rfl) (by omega) (by unfold maxLen; omega) (by omega) (by simp; omega) (wr.heap.size + 1 + 1 + 1) (by simp) ?_; intro g' cap' w1 hown1 hgrow hat hlt1)
        have HN : Hid (Building w0 w.heap.size ids (k + 1) (.slice (some ⟨g', 0, none⟩) (k + 1) cap') w1) := building_step HI.out HO.out HC.out HB'.out h0 hown1 hgrow
        clear hown1 hgrow hat hlt1 HO HC HB' HI hci
        go_wp2
        go_roundw
        case rel => exact ⟨k + 1, by omega, by go_num, HN.out⟩
        case measure => simp [intOf]; omega
    · have hkn : k = n := by omega
      subst hkn
      have hs0 : w.heap.size + 2 ≤ wr.heap.size := by have := hB.size; omega
      have hF1 : wr.heap[w.heap.size]? = some (.cells fs 22 (0, 0)) := fp_block hw0 hB
      have hcF : ∀ i, i < 32 → wr.cell? ⟨w.heap.size, 0 + i, none⟩ = fs[i]? := fun i hi => by rw [cell_of_block hF1, Nat.zero_add]
      have hFl : ids.take k = ids := by rw [← hn, List.take_length]
      have HCall := hid (close_some wr.heap.size (w.heap.size + 1) (w.heap.size + 2) g k cap (RC addr fs (.slice (some ⟨g, 0, none⟩) k cap)) [] ids ps (wr.alloc (.cells (RC addr fs (.slice (some ⟨g, 0, none⟩) k cap)) 47))
        (heap_alloc_new wr _) (RC_at addr fs _ hfs).2.2.2.2.1 (RC_at addr fs _ hfs).2.2.2.2.2 (hown.alloc _) hn (by rw [hFl] at hC; exact hC.alloc _) (log_start hw0 hB) (by simp; omega) (by omega) (by omega) (by simp; omega))
      have HBel : Hid (Below w.heap.size w (wr.alloc (.cells (RC addr fs (.slice (some ⟨g, 0, none⟩) k cap)) 47))) := (below_w hw0 hB).alloc (by omega) _
      have HF1 : Hid ((wr.alloc (.cells (RC addr fs (.slice (some ⟨g, 0, none⟩) k cap)) 47)).heap[w.heap.size]? = some (.cells fs 22 (0, 0))) := (Below.heap_alloc wr _ _ (lt_of_block hF1)).trans hF1
      clear hown hC hB hF1 hFl
      go_wp2_with (first | (refine wpList_load_fp rfl (.tmp 5) rfl w.heap.size 0 rfl fs hfs hcF ?_) | (refine wpList_build _ rfl 47 _ rfl [(0, .string addr), (2, .agg fs), (3, .int .i64 30000000000), (5, .slice (some ⟨g, 0, none⟩) k cap)] (by simp [Act.eval]) _ (built47 addr fs (some ⟨g, 0, none⟩) k cap hfs) ?_))
      refine HCall.out.mono ?_
      clear HCall hcF
      rintro e w2 ⟨rfl, hcl⟩
      obtain ⟨cs2, haf⟩ := after_of hfs hcl HF1.out
      have c37 : w2.cell? ⟨wr.heap.size, 37, none⟩ = some (.slice none 0 0) := by rw [cell_of_block haf.hR]; exact haf.a37
      have c35 : w2.cell? ⟨wr.heap.size, 35, none⟩ = some (.int .i32 0) := by rw [cell_of_block haf.hR]; exact haf.a35
      have f35 : w2.frozen? ⟨wr.heap.size, 35, none⟩ = false := free_of_block haf.hR
      have HL : Hid (Log w2 (w.heap.size + 1) (w.heap.size + 2) ids) := hcl.log
      have HBel2 : Hid (Below w.heap.size w w2) := HBel.out.trans (hcl.below (by omega) (by omega))
      have HS2 : Hid (wr.heap.size + 1 ≤ w2.heap.size) := hid (by have := hcl.size; simpa using this)
      have HA := hid haf
      clear hcl HBel HF1 haf
      go_wp2_with fail
      refine (try_free ⟨wr.heap.size, 35, none⟩ _ c35 f35).mono ?_
      rintro e w' ⟨rfl, rfl⟩
      go_wp2_with fail
      refine (unlock ⟨wr.heap.size, 35, none⟩ _ (World.cell?_setCell_same _ _ _ c35) (by simp [f35])).mono ?_
      rintro e w' ⟨rfl, rfl⟩
      rw [setCell_back HA.out.hR HA.out.a35]
      go_wp2_with fail
      have c0 := HA.out.c0
      have c1 := HA.out.c1
      have c34 := HA.out.c34
      have e22 := eq22 fs hfs hfb
      refine wp_region_quiet_lit (by kernel_rfl) (by kernel_rfl) ?_
      iterate 10 (go_big_quiet_step (fail))
      go_big_quiet_want
      refine quiet_load_fp (.tmp 83) rfl wr.heap.size 2 rfl fs hfs HA.out.cf ?_
      simp only [Act.put, List.setIfInBounds_toArray, List.set_cons_succ, List.set_cons_zero]
      go_big_quiet_on
      go_big_quiet_want
      refine quiet_load_fp (.tmp 5) rfl w.heap.size 0 rfl fs hfs HA.out.cF ?_
      simp only [Act.put, List.setIfInBounds_toArray, List.set_cons_succ, List.set_cons_zero]
      go_big_quiet_on
      repeat (go_big_quiet_step (fail))
      refine wpQuiet_nil ?_
      rintro _ ⟨nq, rfl⟩
      obtain ⟨la, lc, cL, hlog⟩ := HL.out.form
      obtain ⟨lg, rfl, hlc⟩ := hlog (by omega)
      rw [hn] at cL
      have HLC : Hid (∀ j, j < k → w2.cell? ⟨lg, j, none⟩ = some (.int .i32 (ids.getD j 0))) := fun j hj => hlc j (by omega)
      clear hlc hlog e22 c0 c1 c34
      go_wp2_with fail
      have HRb : Hid (w.heap.size + 2 ≤ wr.heap.size) := hs0
      clear hs0 f35 c35
      generalize wr.heap.size = R at *
      go_loopw [14] (fun i wx => ∃ j : Nat, j ≤ k ∧ i = .int .i64 j ∧ ∃ q, wx = w2.drewN q) (fun i _ => k - (intOf i).toNat)
      case atStart => exact ⟨0, Nat.zero_le _, rfl, _, rfl⟩
      case round =>
        obtain ⟨j, hj, rfl, q, rfl⟩ := hrel
        by_cases hjk : j < k
        · have x1 := HLC.out j hjk
          have x2 : w2.cell? ⟨ib, io + j, none⟩ = some (.int .i32 (ids.getD j 0)) := (HBel2.out.cell (p := ⟨ib, io + j, none⟩) hib).trans (hids j hjk)
          generalize ids.getD j 0 = x at x1 x2
          have y1 : (0 : Int) ≤ (j : Int) := by omega
          have y2 : (j : Int) < (k : Int) := by omega
          go_wp2_with fail
          go_quiet (fail)
          go_wp2
          go_roundw
          case rel => exact ⟨j + 1, by omega, by go_num, _, rfl⟩
          case measure => simp [intOf]; omega
        · have hjk' : j = k := by omega
          subst hjk'
          go_wp2_with fail
          refine (close_none R (w.heap.size + 1) (w.heap.size + 2) cs2 ids (w2.drewN q) HA.out.hR HA.out.a35 HA.out.a37 HL.out ?_ HRb.out (by omega)).mono ?_
          · have := HS2.out; have := HRb.out; show _ ≤ w2.heap.size; omega
          rintro e w5 ⟨rfl, hcl5⟩
          have c375 : w5.cell? ⟨R, 37, none⟩ = some (.slice none 0 0) := by obtain ⟨cs5, hR5, _, h5, _⟩ := hcl5.rem; rw [cell_of_block hR5]; exact h5
          obtain ⟨la5, lc5, cL5, _⟩ := hcl5.log.form
          have hl5 : (ids ++ []).length = j := by simpa using hn
          rw [hl5] at cL5
          have HFin : Hid (Below w.heap.size w w5) := (below_drewN' HBel2.out q).trans ((hcl5.below (B := w.heap.size) (by omega) (by omega)))
          clear hcl5 hl5 HBel2 HA HL HLC
          go_wp2
          go_ret
          exact ⟨rfl, HFin.out⟩
end Go.Proofs.Ybulkegtk
