/-
  LawS6654AWhole: the walk.
-/
import Derived.Test.YbulkegtyUns
import Derived.Laws.CopyOwn
import Derived.OpenShut
import Derived.LoopN
namespace Go.Proofs.Ybulkegty
open Go.RowKit
set_option linter.unusedVariables false

theorem info5 : (Yba.prog.info? 5).map (fun i => (i.zero, i.size, i.bytes)) = some (some (.int .u8 0), 1, 1) := by kernel_rfl
theorem isz5 : (Yba.prog.info? 5).map (·.size) = some 1 := by kernel_rfl
theorem hid {p : Prop} (h : p) : Hid p := h

theorem splice_all {α : Type} (L cs : List α) (h : L.length = cs.length) : splice L 0 cs = cs := by
  simp [splice, h]

theorem made_block {w wm : World} {n : Nat} {xs : List Value} (h : wm.ownsRow w.heap.size 5 1 (.slice (some ⟨w.heap.size, 0, none⟩) n n) n xs) : ∃ cur : List Value, cur.length = n ∧ wm.heap[w.heap.size]? = some (.cells cur.toArray 5 (0, 0)) := by
  rcases h.2 with ⟨h', _⟩ | ⟨g, cap, cur, hv, _, hg, _, _, hs, _⟩
  · cases h'
  · simp only [Value.slice.injEq, Option.some.injEq, Addr.mk.injEq] at hv
    obtain ⟨⟨rfl, _⟩, _, rfl⟩ := hv
    exact ⟨cur.toList, by simp; omega, by simpa using hg⟩

/-- The copy: its block, whole. -/
theorem kept_block {w wc : World} {zs : List Int} {n : Nat} {cur : List Value} (hz : n ≤ zs.length) (hl : cur.length = n) (h : wc.heap[w.heap.size]? = some (.cells (splice cur 0 ((zs.take n).map (Value.int .u8))).toArray 5 (0, 0))) :
    ∀ j, j < n → wc.cell? ⟨w.heap.size, j, none⟩ = some (.int .u8 (zs.getD j 0)) := by
  intro j hj
  rw [splice_all _ _ (by simp; omega)] at h
  simp [World.cell?, h, hj, List.getD, show j < zs.length by omega]

theorem grown_below {w wm : World} (h : w.grownBy wm none) : Below w.heap.size w wm := (Below.refl _ _).grown h (Nat.le_refl _) (fun k e => by cases e)
theorem len_take {zs : List Int} {n : Nat} (hz : n ≤ zs.length) : ((zs.take n).map (Value.int .u8)).length = Nat.min n n := by simp; omega
theorem fit_take {zs : List Int} {n : Nat} {cur : List Value} (hl : cur.length = n) (hz : n ≤ zs.length) : 0 + ((zs.take n).map (Value.int .u8)).length ≤ cur.length := by simp; omega
theorem src_cells {w wm : World} {zs : List Int} {n : Nat} {ad : Addr} (hb : Below w.heap.size w wm) (hz : n ≤ zs.length) (hc : ∀ i, i < zs.length → w.cell? (ad.add i) = some (.int .u8 (zs.getD i 0))) :
    ∀ j v, ((zs.take n).map (Value.int .u8))[j]? = some v → wm.cell? (ad.add j) = some v := by
  intro j v hv
  have hj : j < n := by have := (List.getElem?_eq_some_iff.1 hv).1; simp at this; omega
  have h1 := hc j (by omega)
  rw [hb.cell (World.block_lt_of_cell? w _ h1), h1, ← hv]
  simp [hj, List.getD, show j < zs.length by omega]

theorem after_call {w wc w2 : World} {o : Obj} (hb : Below w.heap.size w wc) (h2 : Below (wc.alloc o).heap.size (wc.alloc o) w2) : Below w.heap.size w w2 := by
  have := hb.size
  exact (hb.alloc this o).trans (h2.mono (by simp; omega))
theorem keep_call {w wc w2 : World} {o : Obj} {zs : List Int} {n : Nat} {cur : List Value} (hz : n ≤ zs.length) (hl : cur.length = n) (hk : wc.heap[w.heap.size]? = some (.cells (splice cur 0 ((zs.take n).map (Value.int .u8))).toArray 5 (0, 0)))
    (h2 : Below (wc.alloc o).heap.size (wc.alloc o) w2) : ∀ j, j < n → w2.cell? ⟨w.heap.size, j, none⟩ = some (.int .u8 (zs.getD j 0)) := by
  intro j hj
  have hc := kept_block hz hl hk j hj
  have hlt := World.block_lt_of_cell? wc _ hc
  rw [h2.cell (p := ⟨w.heap.size, j, none⟩) (by simp at hlt ⊢; omega), World.cell?_alloc_past _ _ _ hlt, hc]
theorem data_at {w : World} {ad : Addr} {zs : List Int} {n : Nat} (hz : n ≤ zs.length) (hn : 0 < n) (hc : ∀ i, i < zs.length → w.cell? (ad.add i) = some (.int .u8 (zs.getD i 0))) :
    ∃ b off, ad = ⟨b, off, none⟩ ∧ b < w.heap.size ∧ ∀ j, j < n → w.cell? ⟨b, off + j, none⟩ = some (.int .u8 (zs.getD j 0)) := by
  obtain ⟨b, off, rfl, h⟩ := ints_at hc (by omega)
  exact ⟨b, off, rfl, World.block_lt_of_cell? w _ (h 0 (by omega)), fun j hj => h j (by omega)⟩

set_option maxRecDepth 100000 in
set_option maxHeartbeats 3200000 in
theorem law_A (code f vendor : Int) (ad : Addr) (n c : Nat) (hn : n ≠ 4) (hn1 : n ≤ 1048576) (zs : List Int) (w : World) (hz : n ≤ zs.length) (hc : ∀ i, i < zs.length → w.cell? (ad.add i) = some (.int .u8 (zs.getD i 0))) :
    Calls Yba.prog 3 #[.int .u32 code, .int .u8 f, .int .u32 vendor, .slice (some ad) n c] w fun e w' => e = .returned (.bool true) ∧ Below w.heap.size w w' := by
  have n23 := fun w a n c => run_neq_slice_nil_any (P := Yba.prog) w 23 5 a n c 0 0 Yba.underlying23
  have q23 := fun w a n c => Lib.run_eql_slice_nil (P := Yba.prog) w 23 5 a n c 0 0 Yba.underlying23
  obtain ⟨i0, hi0, hz0, hz1, hz2⟩ := info_parts info5
  have d20 : decide ((1048576 : Int) < (n : Int)) = false := decide_eq_false (by omega)
  have b4 : ((n : Int) != 4) = true := by rw [bne_iff_ne]; omega
  go_enter Yba.func3, Yba.ntmps3
  go_wp2_with (first
    | (refine wpList_make_full _ rfl _ _ 23 rfl w.heap.size 5 i0 (.int .u8 0) 1 Yba.underlying23 hi0 hz0 hz1 .i64 .i64 _ _ n rfl rfl rfl rfl (by rw [hz2]; omega) (by unfold maxLen; omega) (Nat.le_refl _) ?_; intro wm hown hgrow; obtain ⟨cur, hcl, hcb⟩ := made_block hown; have hbm := grown_below hgrow; clear hown hgrow)
    | (refine wpList_copy_splice rfl (.tmp 24) (.tmp 25) 23 23 rfl 5 Yba.underlying23 isz5 _ _ n n n c rfl rfl w.heap.size 0 cur 5 hcb ((zs.take n).map (Value.int .u8)) (len_take hz) (fun _ => ⟨rfl, ad, rfl, src_cells hbm hz hc⟩) (fit_take hcl hz) (ints_oneCell .u8 _) w.heap.size w hbm (Nat.le_refl _) ?_; intro wc hk hb; clear hcb hbm))
  refine (uns_len code f vendor (some ad) n c _ hn (by unfold maxLen; omega)).mono ?_
  rintro e w2 ⟨rfl, h2⟩
  have HB : Hid (Below w.heap.size w w2) := after_call hb h2
  have HK : Hid (∀ j, j < n → w2.cell? ⟨w.heap.size, j, none⟩ = some (.int .u8 (zs.getD j 0))) := keep_call hz hcl hk.out h2
  clear h2 hb hk hcl
  go_wp2_with fail
  go_loopw [13] (fun i wx => ∃ k : Nat, k ≤ n ∧ i = .int .i64 k ∧ ∃ q, wx = w2.drewN q) (fun i _ => n - (intOf i).toNat)
  case atStart => exact ⟨0, Nat.zero_le _, rfl, 0, rfl⟩
  case round =>
    obtain ⟨k, hk, rfl, q, rfl⟩ := hrel
    by_cases hlt : k < n
    · obtain ⟨b, off, rfl, hbl, hcd⟩ := data_at hz (by omega) hc
      have x1 := HK.out k hlt
      have x2 : w2.cell? ⟨b, off + k, none⟩ = some (.int .u8 (zs.getD k 0)) := (HB.out.cell (p := ⟨b, off + k, none⟩) hbl).trans (hcd k hlt)
      clear hcd hc
      generalize zs.getD k 0 = x at x1 x2
      have y1 : (0 : Int) ≤ (k : Int) := by omega
      have y2 : (k : Int) < (n : Int) := by omega
      go_wp2_with fail
      go_quiet (fail)
      go_wp2
      go_roundw
      case rel => exact ⟨k + 1, by omega, by go_num, _, rfl⟩
      case measure => simp [intOf]; omega
    · have hkn : k = n := by omega
      subst hkn
      by_cases hf : 128 ≤ f
      · go_wp2
        go_ret
        exact ⟨rfl, below_drewN' HB.out _⟩
      · go_wp2
        go_ret
        exact ⟨rfl, below_drewN' HB.out _⟩

set_option maxRecDepth 100000 in
set_option maxHeartbeats 3200000 in
theorem law_B (code f vendor : Int) (ad : Addr) (c : Nat) (hf : 128 ≤ f) (hf1 : f ≤ 255) (zs : List Int) (w : World) (hz : 4 ≤ zs.length) (hc : ∀ i, i < zs.length → w.cell? (ad.add i) = some (.int .u8 (zs.getD i 0))) :
    Calls Yba.prog 3 #[.int .u32 code, .int .u8 f, .int .u32 vendor, .slice (some ad) 4 c] w fun e w' => e = .returned (.bool true) ∧ Below w.heap.size w w' := by
  have n23 := fun w a n c => run_neq_slice_nil_any (P := Yba.prog) w 23 5 a n c 0 0 Yba.underlying23
  have q23 := fun w a n c => Lib.run_eql_slice_nil (P := Yba.prog) w 23 5 a n c 0 0 Yba.underlying23
  obtain ⟨i0, hi0, hz0, hz1, hz2⟩ := info_parts info5
  go_enter Yba.func3, Yba.ntmps3
  go_wp2_with (first
    | (refine wpList_make_full _ rfl _ _ 23 rfl w.heap.size 5 i0 (.int .u8 0) 1 Yba.underlying23 hi0 hz0 hz1 .i64 .i64 _ _ 4 rfl rfl rfl rfl (by rw [hz2]; omega) (by unfold maxLen; omega) (Nat.le_refl _) ?_; intro wm hown hgrow; obtain ⟨cur, hcl, hcb⟩ := made_block hown; have hbm := grown_below hgrow; clear hown hgrow)
    | (refine wpList_copy_splice rfl (.tmp 24) (.tmp 25) 23 23 rfl 5 Yba.underlying23 isz5 _ _ 4 4 4 c rfl rfl w.heap.size 0 cur 5 hcb ((zs.take 4).map (Value.int .u8)) (len_take hz) (fun _ => ⟨rfl, ad, rfl, src_cells hbm hz hc⟩) (fit_take hcl hz) (ints_oneCell .u8 _) w.heap.size w hbm (Nat.le_refl _) ?_; intro wc hk hb; clear hcb hbm))
  refine (uns_flag code f vendor (some ad) c _ hf hf1).mono ?_
  rintro e w2 ⟨rfl, h2⟩
  have HB : Hid (Below w.heap.size w w2) := after_call hb h2
  have HK : Hid (∀ j, j < 4 → w2.cell? ⟨w.heap.size, j, none⟩ = some (.int .u8 (zs.getD j 0))) := keep_call hz hcl hk.out h2
  clear h2 hb hk hcl
  go_wp2_with fail
  go_loopw [13] (fun i wx => ∃ k : Nat, k ≤ 4 ∧ i = .int .i64 k ∧ ∃ q, wx = w2.drewN q) (fun i _ => 4 - (intOf i).toNat)
  case atStart => exact ⟨0, Nat.zero_le _, rfl, 0, rfl⟩
  case round =>
    obtain ⟨k, hk, rfl, q, rfl⟩ := hrel
    by_cases hlt : k < 4
    · obtain ⟨b, off, rfl, hbl, hcd⟩ := data_at hz (by omega) hc
      have x1 := HK.out k hlt
      have x2 : w2.cell? ⟨b, off + k, none⟩ = some (.int .u8 (zs.getD k 0)) := (HB.out.cell (p := ⟨b, off + k, none⟩) hbl).trans (hcd k hlt)
      clear hcd hc
      generalize zs.getD k 0 = x at x1 x2
      have y1 : (0 : Int) ≤ (k : Int) := by omega
      have y2 : (k : Int) < (4 : Int) := by omega
      go_wp2_with fail
      go_quiet (fail)
      go_wp2
      go_roundw
      case rel => exact ⟨k + 1, by omega, by go_num, _, rfl⟩
      case measure => simp [intOf]; omega
    · have hkn : k = 4 := by omega
      subst hkn
      go_wp2
      go_ret
      exact ⟨rfl, below_drewN' HB.out _⟩

set_option maxRecDepth 100000 in
set_option maxHeartbeats 3200000 in
theorem law_C (code f vendor : Int) (ad : Addr) (zs : List Int) (c : Nat) (hf0 : 0 ≤ f) (hf : f < 128) (hw : ∀ j, j < 4 → 0 ≤ zs.getD j 0 ∧ zs.getD j 0 ≤ 255) (w : World) (hz : 4 ≤ zs.length) (hc : ∀ i, i < zs.length → w.cell? (ad.add i) = some (.int .u8 (zs.getD i 0))) :
    Calls Yba.prog 3 #[.int .u32 code, .int .u8 f, .int .u32 vendor, .slice (some ad) 4 c] w fun e w' => e = .returned (.bool true) ∧ Below w.heap.size w w' := by
  have n23 := fun w a n c => run_neq_slice_nil_any (P := Yba.prog) w 23 5 a n c 0 0 Yba.underlying23
  have q23 := fun w a n c => Lib.run_eql_slice_nil (P := Yba.prog) w 23 5 a n c 0 0 Yba.underlying23
  obtain ⟨i0, hi0, hz0, hz1, hz2⟩ := info_parts info5
  go_enter Yba.func3, Yba.ntmps3
  go_wp2_with (first
    | (refine wpList_make_full _ rfl _ _ 23 rfl w.heap.size 5 i0 (.int .u8 0) 1 Yba.underlying23 hi0 hz0 hz1 .i64 .i64 _ _ 4 rfl rfl rfl rfl (by rw [hz2]; omega) (by unfold maxLen; omega) (Nat.le_refl _) ?_; intro wm hown hgrow; obtain ⟨cur, hcl, hcb⟩ := made_block hown; have hbm := grown_below hgrow; clear hown hgrow)
    | (refine wpList_copy_splice rfl (.tmp 24) (.tmp 25) 23 23 rfl 5 Yba.underlying23 isz5 _ _ 4 4 4 c rfl rfl w.heap.size 0 cur 5 hcb ((zs.take 4).map (Value.int .u8)) (len_take hz) (fun _ => ⟨rfl, ad, rfl, src_cells hbm hz hc⟩) (fit_take hcl hz) (ints_oneCell .u8 _) w.heap.size w hbm (Nat.le_refl _) ?_; intro wc hk hb; clear hcb hbm))
  obtain ⟨b, off, rfl, hbl, hcd⟩ := data_at hz (by omega) hc
  have hcx : ∀ j, j < 4 → ∀ ob, (wc.alloc ob).cell? ⟨b, off + j, none⟩ = some (.int .u8 (zs.getD j 0)) := fun j hj ob => (World.cell?_alloc_past _ _ _ (by have := hb.size; show b < _; omega)).trans ((hb.cell (p := ⟨b, off + j, none⟩) hbl).trans (hcd j hj))
  refine (uns_yes code f vendor b off c (zs.getD 0 0) (zs.getD 1 0) (zs.getD 2 0) (zs.getD 3 0) _ hf0 hf (hcx 0 (by omega) _) (hcx 1 (by omega) _) (hcx 2 (by omega) _) (hcx 3 (by omega) _) (hw 0 (by omega)).1 (hw 0 (by omega)).2 (hw 1 (by omega)).1 (hw 1 (by omega)).2 (hw 2 (by omega)).1 (hw 2 (by omega)).2 (hw 3 (by omega)).1 (hw 3 (by omega)).2).mono ?_
  clear hcx
  rintro e w2 ⟨rfl, h2⟩
  have HB : Hid (Below w.heap.size w w2) := after_call hb h2
  have HK : Hid (∀ j, j < 4 → w2.cell? ⟨w.heap.size, j, none⟩ = some (.int .u8 (zs.getD j 0))) := keep_call hz hcl hk.out h2
  clear h2 hb hk hcl
  go_wp2_with fail
  go_loopw [13] (fun i wx => ∃ k : Nat, k ≤ 4 ∧ i = .int .i64 k ∧ ∃ q, wx = w2.drewN q) (fun i _ => 4 - (intOf i).toNat)
  case atStart => exact ⟨0, Nat.zero_le _, rfl, 0, rfl⟩
  case round =>
    obtain ⟨k, hk, rfl, q, rfl⟩ := hrel
    by_cases hlt : k < 4
    · have x1 := HK.out k hlt
      have x2 : w2.cell? ⟨b, off + k, none⟩ = some (.int .u8 (zs.getD k 0)) := (HB.out.cell (p := ⟨b, off + k, none⟩) hbl).trans (hcd k hlt)
      clear hcd hc
      generalize zs.getD k 0 = x at x1 x2
      have y1 : (0 : Int) ≤ (k : Int) := by omega
      have y2 : (k : Int) < (4 : Int) := by omega
      go_wp2_with fail
      go_quiet (fail)
      go_wp2
      go_roundw
      case rel => exact ⟨k + 1, by omega, by go_num, _, rfl⟩
      case measure => simp [intOf]; omega
    · have hkn : k = 4 := by omega
      subst hkn
      go_wp2_with fail
      have x0 : w2.cell? ⟨w.heap.size, 0, none⟩ = some (.int .u8 (zs[0]?.getD 0)) := HK.out 0 (by omega)
      have x1 : w2.cell? ⟨w.heap.size, 1, none⟩ = some (.int .u8 (zs[1]?.getD 0)) := HK.out 1 (by omega)
      have x2 : w2.cell? ⟨w.heap.size, 2, none⟩ = some (.int .u8 (zs[2]?.getD 0)) := HK.out 2 (by omega)
      have x3 : w2.cell? ⟨w.heap.size, 3, none⟩ = some (.int .u8 (zs[3]?.getD 0)) := HK.out 3 (by omega)
      obtain ⟨l0, u0⟩ : 0 ≤ zs[0]?.getD 0 ∧ zs[0]?.getD 0 ≤ 255 := hw 0 (by omega)
      obtain ⟨l1, u1⟩ : 0 ≤ zs[1]?.getD 0 ∧ zs[1]?.getD 0 ≤ 255 := hw 1 (by omega)
      obtain ⟨l2, u2⟩ : 0 ≤ zs[2]?.getD 0 ∧ zs[2]?.getD 0 ≤ 255 := hw 2 (by omega)
      obtain ⟨l3, u3⟩ : 0 ≤ zs[3]?.getD 0 ∧ zs[3]?.getD 0 ≤ 255 := hw 3 (by omega)
      clear HK hcd hw hc
      generalize zs[0]?.getD 0 = z0 at *
      generalize zs[1]?.getD 0 = z1 at *
      generalize zs[2]?.getD 0 = z2 at *
      generalize zs[3]?.getD 0 = z3 at *
      have hbe : (be4 z0 z1 z2 z3 == ((z0 * 256 + z1) * 256 + z2) * 256 + z3) = true := by rw [beq_iff_eq]; unfold be4; omega
      refine wp_loop_rounds 5 ?_
      rw [rounds_succ]
      go_wp2
      rw [rounds_succ]
      go_wp2
      rw [rounds_succ]
      go_wp2
      rw [rounds_succ]
      go_wp2
      rw [rounds_succ]
      go_wp2
      go_ret
      exact ⟨rfl, below_drewN' HB.out _⟩

set_option maxRecDepth 100000 in
theorem law_long (code f vendor : Int) (a : Option Addr) (n c : Nat) (w : World) (hn : 1048576 < n) :
    Calls Yba.prog 3 #[.int .u32 code, .int .u8 f, .int .u32 vendor, .slice a n c] w fun e w' => e = .returned (.bool true) ∧ Below w.heap.size w w' := by
  go_enter Yba.func3, Yba.ntmps3
  go_wp2
  go_ret
  exact ⟨rfl, Below.refl _ _⟩

set_option maxRecDepth 100000 in
set_option maxHeartbeats 1600000 in
theorem law_nil (code f vendor : Int) (w : World) :
    Calls Yba.prog 3 #[.int .u32 code, .int .u8 f, .int .u32 vendor, .slice none 0 0] w fun e w' => e = .returned (.bool true) ∧ Below w.heap.size w w' := by
  have n23 := fun w a n c => run_neq_slice_nil_any (P := Yba.prog) w 23 5 a n c 0 0 Yba.underlying23
  have q23 := fun w a n c => Lib.run_eql_slice_nil (P := Yba.prog) w 23 5 a n c 0 0 Yba.underlying23
  by_cases hf : 128 ≤ f
  · go_enter Yba.func3, Yba.ntmps3
    go_wp2_with fail
    refine (uns_len code f vendor none 0 0 _ (by omega) (by unfold maxLen; omega)).mono ?_
    rintro e w2 ⟨rfl, h2⟩
    have HB : Hid (Below w.heap.size w w2) := ((Below.refl _ _).alloc (Nat.le_refl _) _).trans (h2.mono (by simp))
    clear h2
    go_wp2_with fail
    refine wp_loop_rounds 1 ?_
    rw [rounds_succ]
    go_wp2
    go_ret
    exact ⟨rfl, HB.out⟩
  · go_enter Yba.func3, Yba.ntmps3
    go_wp2_with fail
    refine (uns_len code f vendor none 0 0 _ (by omega) (by unfold maxLen; omega)).mono ?_
    rintro e w2 ⟨rfl, h2⟩
    have HB : Hid (Below w.heap.size w w2) := ((Below.refl _ _).alloc (Nat.le_refl _) _).trans (h2.mono (by simp))
    clear h2
    go_wp2_with fail
    refine wp_loop_rounds 1 ?_
    rw [rounds_succ]
    go_wp2
    go_ret
    exact ⟨rfl, HB.out⟩
end Go.Proofs.Ybulkegty
