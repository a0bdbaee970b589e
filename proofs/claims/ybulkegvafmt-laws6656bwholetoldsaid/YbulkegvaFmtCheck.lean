/-
  DERIVED. zzs6656bcheck.
-/
import Derived.Test.YbulkegvaFmtBuild
import Derived.Deep.QuietTactic
import Derived.BigQuiet
set_option linter.unusedVariables false
namespace Go.Proofs.YbulkegvaFmt
open Go.RowKit Go.Extern.Stop Go.Stop Go.Extern Go.Maps
attribute [local go_sem] Ybaf.call13 Ybaf.guard Ybaf.fmt0 Ybaf.fmt0r Ybaf.fmt1 Ybaf.fmt1r Ybaf.fmt2 Ybaf.fmt2r Ybaf.fmt3 Ybaf.fmt3r Ybaf.fmt4 Ybaf.fmt4r
attribute [local go_sem] Ybaf.act3_100 Ybaf.op3_100 Ybaf.str3 Ybaf.act9_115 Ybaf.op9_115 Ybaf.str9 Ybaf.asNil_9 Ybaf.as9_9 Ybaf.as4_9 Ybaf.as23_9 Ybaf.as24_9 Ybaf.as72_9
attribute [local go_sem] Ybaf.asNil_4 Ybaf.as9_4 Ybaf.as4_4 Ybaf.as23_4 Ybaf.as24_4 Ybaf.as72_4 Ybaf.asNil_23 Ybaf.as9_23 Ybaf.as4_23 Ybaf.as23_23 Ybaf.as24_23 Ybaf.as72_23
attribute [local go_sem] Ybaf.asNil_24 Ybaf.as9_24 Ybaf.as4_24 Ybaf.as23_24 Ybaf.as24_24 Ybaf.as72_24 Ybaf.as37_37 Ybaf.isIface20 Ybaf.isIface33

theorem Ybaf.mapNil (b : Nat) (w : World) : (binOp .eql 23 (.map (some b)) (.map none)).run Ybaf.prog w = .ok (.bool false) w := by kernel_rfl
attribute [local go_sem] Ybaf.mapNil

/-- The facts of the world in which the keys are looked up. -/
structure CI (m : Mem) (W : World) (bx kb b : Nat) (d : Bool) : Prop where
  bx : W.heap[bx]? = some (.cells m.cells 30 (0, 0))
  kb : W.heap[kb]? = some (.cells #[.string K0, .string K1, .string K2, .string K3] 53 (0, 0))
  mp : MapIs W b (m.f6 d d) (m.c6 d d)

theorem CI.drewN {m : Mem} {W : World} {bx kb b : Nat} {d : Bool} (h : CI m W bx kb b d) (q : Nat) : CI m (W.drewN q) bx kb b d :=
  ⟨by simpa using h.bx, by simpa using h.kb, h.mp.same (by simp)⟩
theorem below_drewN {B : Nat} {w W : World} (h : Below B w W) (q : Nat) : Below B w (W.drewN q) := by
  induction q with
  | zero => exact h
  | succ q ih => exact ih.drew

theorem start_CI (m : Mem) (w w1 : World) (b : Nat) (d : Bool) (hm : MapIs w b (m.f6 d d) (m.c6 d d)) (hb : Below (w.alloc (.cells m.cells 30)).heap.size (w.alloc (.cells m.cells 30)) w1) :
    CI m (w1.alloc (.cells #[.string K0, .string K1, .string K2, .string K3] 53)) w.heap.size w1.heap.size b d ∧ Below w.heap.size w (w1.alloc (.cells #[.string K0, .string K1, .string K2, .string K3] 53)) := by
  have hs : w.heap.size + 1 ≤ w1.heap.size := by simpa using hb.size
  have hlt := hm.lt
  refine ⟨⟨?_, ?_, ?_⟩, ?_⟩
  · rw [Below.heap_alloc _ _ _ (by omega), hb.block _ (by simp)]
    exact heap_alloc_new _ _
  · exact heap_alloc_new _ _
  · refine hm.same ?_
    rw [Below.heap_alloc _ _ _ (by omega), hb.block _ (by simp; omega), Below.heap_alloc _ _ _ hlt]
  · exact (((Below.refl _ w).alloc (Nat.le_refl _) _).trans (hb.mono (by simp))).alloc (by omega) _

theorem look_yes {w : World} {b n : Nat} {f : ByteArray → Option Value} (h : MapIs w b f n) {k : ByteArray} (hk : k.size ≤ maxLen) {v : Value} (e : f k = some v) (q : Nat) :
    (Instr.lookup 23 (.map (some b)) (.string k) true).run Ybaf.prog (w.drewN q) = .ok (.tuple #[v, .bool true]) (w.drewN q) := by
  have h' : MapIs (w.drewN q) b f n := h.same (by simp)
  have := h'.lookOk hk
  rw [e] at this
  exact this
theorem look_no {w : World} {b n : Nat} {f : ByteArray → Option Value} (h : MapIs w b f n) {k : ByteArray} (hk : k.size ≤ maxLen) (e : f k = none) (q : Nat) :
    (Instr.lookup 23 (.map (some b)) (.string k) true).run Ybaf.prog (w.drewN q) = .ok (.tuple #[.nilIface, .bool false]) (w.drewN q) := by
  have h' : MapIs (w.drewN q) b f n := h.same (by simp)
  have := h'.lookOk hk
  rw [e] at this
  exact this


set_option maxHeartbeats 2400000 in
theorem check_m (k t0 t1 t2 t3 ct bt : Int) (s0 s1 s2 s3 : ByteArray) (cb bb : Bool) (b : Nat) (d : Bool) (w : World) (h2 : ¬ k.tmod 4 = 2) (h3 : ¬ k.tmod 4 = 3) (hm : MapIs w b (Mem.f6 ⟨k, t0, s0, t1, s1, t2, s2, t3, s3, ct, cb, bt, bb⟩ d d) (Mem.c6 ⟨k, t0, s0, t1, s1, t2, s2, t3, s3, ct, cb, bt, bb⟩ d d)) :
    Calls Ybaf.prog 8 #[.iface 23 (.map (some b)), .agg #[.int .u8 k, .int .u8 t0, .string s0, .int .u8 t1, .string s1, .int .u8 t2, .string s2, .int .u8 t3, .string s3, .int .u8 ct, .bool cb, .int .u8 bt, .bool bb], .bool d] w fun e w' => e = .returned (.bool true) ∧ Below w.heap.size w w' := by
  have HM := hid hm
  clear hm
  go_enter Ybaf.func8, Ybaf.ntmps8
  go_wp2_with fail
  refine (keys_c _).mono ?_
  rintro e w1 ⟨rfl, hb1⟩
  have HB := hid (start_CI ⟨k, t0, s0, t1, s1, t2, s2, t3, s3, ct, cb, bt, bb⟩ w w1 b d HM.out hb1)
  clear hb1
  go_wp2
  have HC : Hid (CI ⟨k, t0, s0, t1, s1, t2, s2, t3, s3, ct, cb, bt, bb⟩ _ w.heap.size w1.heap.size b d) := HB.out.1
  have HBel : Hid (Below w.heap.size w _) := HB.out.2
  clear HB HM
  go_loopw [12, 13] (fun c i wr => ∃ j : Nat, j ≤ 4 ∧ i = .int .i64 j ∧ c = .int .i64 (Mem.cN ⟨k, t0, s0, t1, s1, t2, s2, t3, s3, ct, cb, bt, bb⟩ j : Nat) ∧ CI ⟨k, t0, s0, t1, s1, t2, s2, t3, s3, ct, cb, bt, bb⟩ wr w.heap.size w1.heap.size b d ∧ Below w.heap.size w wr) (fun _ i _ => 4 - (intOf i).toNat)
  case atStart => exact ⟨0, by omega, rfl, rfl, HC.out, HBel.out⟩
  case round =>
    obtain ⟨j, hj, rfl, rfl, hC, hBel⟩ := hrel
    clear HC HBel
    have HC := hid hC
    have HBel := hid hBel
    clear hC hBel
    have hj' : j = 0 ∨ j = 1 ∨ j = 2 ∨ j = 3 ∨ j = 4 := by omega
    rcases hj' with rfl | rfl | rfl | rfl | rfl

    · -- round 0
      by_cases ht : t0.tmod 4 = 0
      · have d1 : wr.cell? ⟨w.heap.size, 1, none⟩ = some (.int .u8 t0) := cell_at HC.out.bx rfl
        have d2 : wr.cell? ⟨w.heap.size, 2, none⟩ = some (.string s0) := cell_at HC.out.bx rfl
        have d3 : wr.cell? ⟨w1.heap.size, 0, none⟩ = some (.string ⟨#[97, 112, 105, 86, 101, 114, 115, 105, 111, 110]⟩) := cell_at HC.out.kb rfl
        have hl : ∀ q, (Instr.lookup 23 (.map (some b)) (.string ⟨#[97, 112, 105, 86, 101, 114, 115, 105, 111, 110]⟩) true).run Ybaf.prog (wr.drewN q) = .ok (.tuple #[.nilIface, .bool false]) (wr.drewN q) := fun q => look_no HC.out.mp sK0 ((Mem.at0 ⟨k, t0, s0, t1, s1, t2, s2, t3, s3, ct, cb, bt, bb⟩ d d).trans (by simp [sent, ht])) q
        have hcc : Mem.cN ⟨k, t0, s0, t1, s1, t2, s2, t3, s3, ct, cb, bt, bb⟩ 0 = Mem.cN ⟨k, t0, s0, t1, s1, t2, s2, t3, s3, ct, cb, bt, bb⟩ 1 := by simp [Mem.cN, Mem.c1, sent, cn, ht]
        rw [hcc]
        go_wp2_with fail
        go_quiet (first | (go_at_call 10; exact Calls.quiet_of_same (sval_c _ _ _)) | (go_at_call 18; exact Calls.quiet_of_same (has_no _ _ _ _ _ (hl _))))
        go_wp2
        go_roundw
        case rel => exact ⟨1, by omega, by go_num, rfl, HC.out.drewN _, below_drewN HBel.out _⟩
        case measure => simp [intOf]
      · have d1 : wr.cell? ⟨w.heap.size, 1, none⟩ = some (.int .u8 t0) := cell_at HC.out.bx rfl
        have d2 : wr.cell? ⟨w.heap.size, 2, none⟩ = some (.string s0) := cell_at HC.out.bx rfl
        have d3 : wr.cell? ⟨w1.heap.size, 0, none⟩ = some (.string ⟨#[97, 112, 105, 86, 101, 114, 115, 105, 111, 110]⟩) := cell_at HC.out.kb rfl
        have hl : ∀ q, (Instr.lookup 23 (.map (some b)) (.string ⟨#[97, 112, 105, 86, 101, 114, 115, 105, 111, 110]⟩) true).run Ybaf.prog (wr.drewN q) = .ok (.tuple #[sval (t0.tmod 4) s0, .bool true]) (wr.drewN q) := fun q => look_yes HC.out.mp sK0 ((Mem.at0 ⟨k, t0, s0, t1, s1, t2, s2, t3, s3, ct, cb, bt, bb⟩ d d).trans (by simp [sent, ht])) q
        have hcc : Mem.cN ⟨k, t0, s0, t1, s1, t2, s2, t3, s3, ct, cb, bt, bb⟩ 1 = Mem.cN ⟨k, t0, s0, t1, s1, t2, s2, t3, s3, ct, cb, bt, bb⟩ 0 + 1 := by simp [Mem.cN, Mem.c1, sent, cn, ht]
        have hcl := Mem.cN_lt ⟨k, t0, s0, t1, s1, t2, s2, t3, s3, ct, cb, bt, bb⟩ 0
        generalize Mem.cN ⟨k, t0, s0, t1, s1, t2, s2, t3, s3, ct, cb, bt, bb⟩ 0 = c at hcc hcl
        go_wp2_with fail
        go_quiet (first | (go_at_call 10; exact Calls.quiet_of_same (sval_c _ _ _)) | (go_at_call 18; exact Calls.quiet_of_same (has_yes _ _ _ _ (hl _) (eql_sval _ _ _) (fun i j => guard_sval _ _ i j _))))
        go_wp2
        go_roundw
        case rel => exact ⟨1, by omega, by go_num, by rw [hcc]; go_num, HC.out.drewN _, below_drewN HBel.out _⟩
        case measure => simp [intOf]

    · -- round 1
      by_cases ht : t1.tmod 4 = 0
      · have d1 : wr.cell? ⟨w.heap.size, 3, none⟩ = some (.int .u8 t1) := cell_at HC.out.bx rfl
        have d2 : wr.cell? ⟨w.heap.size, 4, none⟩ = some (.string s1) := cell_at HC.out.bx rfl
        have d3 : wr.cell? ⟨w1.heap.size, 1, none⟩ = some (.string ⟨#[107, 105, 110, 100]⟩) := cell_at HC.out.kb rfl
        have hl : ∀ q, (Instr.lookup 23 (.map (some b)) (.string ⟨#[107, 105, 110, 100]⟩) true).run Ybaf.prog (wr.drewN q) = .ok (.tuple #[.nilIface, .bool false]) (wr.drewN q) := fun q => look_no HC.out.mp sK1 ((Mem.at1 ⟨k, t0, s0, t1, s1, t2, s2, t3, s3, ct, cb, bt, bb⟩ d d).trans (by simp [sent, ht])) q
        have hcc : Mem.cN ⟨k, t0, s0, t1, s1, t2, s2, t3, s3, ct, cb, bt, bb⟩ 1 = Mem.cN ⟨k, t0, s0, t1, s1, t2, s2, t3, s3, ct, cb, bt, bb⟩ 2 := by simp [Mem.cN, Mem.c2, sent, cn, ht]
        rw [hcc]
        go_wp2_with fail
        go_quiet (first | (go_at_call 10; exact Calls.quiet_of_same (sval_c _ _ _)) | (go_at_call 18; exact Calls.quiet_of_same (has_no _ _ _ _ _ (hl _))))
        go_wp2
        go_roundw
        case rel => exact ⟨2, by omega, by go_num, rfl, HC.out.drewN _, below_drewN HBel.out _⟩
        case measure => simp [intOf]
      · have d1 : wr.cell? ⟨w.heap.size, 3, none⟩ = some (.int .u8 t1) := cell_at HC.out.bx rfl
        have d2 : wr.cell? ⟨w.heap.size, 4, none⟩ = some (.string s1) := cell_at HC.out.bx rfl
        have d3 : wr.cell? ⟨w1.heap.size, 1, none⟩ = some (.string ⟨#[107, 105, 110, 100]⟩) := cell_at HC.out.kb rfl
        have hl : ∀ q, (Instr.lookup 23 (.map (some b)) (.string ⟨#[107, 105, 110, 100]⟩) true).run Ybaf.prog (wr.drewN q) = .ok (.tuple #[sval (t1.tmod 4) s1, .bool true]) (wr.drewN q) := fun q => look_yes HC.out.mp sK1 ((Mem.at1 ⟨k, t0, s0, t1, s1, t2, s2, t3, s3, ct, cb, bt, bb⟩ d d).trans (by simp [sent, ht])) q
        have hcc : Mem.cN ⟨k, t0, s0, t1, s1, t2, s2, t3, s3, ct, cb, bt, bb⟩ 2 = Mem.cN ⟨k, t0, s0, t1, s1, t2, s2, t3, s3, ct, cb, bt, bb⟩ 1 + 1 := by simp [Mem.cN, Mem.c2, sent, cn, ht]
        have hcl := Mem.cN_lt ⟨k, t0, s0, t1, s1, t2, s2, t3, s3, ct, cb, bt, bb⟩ 1
        generalize Mem.cN ⟨k, t0, s0, t1, s1, t2, s2, t3, s3, ct, cb, bt, bb⟩ 1 = c at hcc hcl
        go_wp2_with fail
        go_quiet (first | (go_at_call 10; exact Calls.quiet_of_same (sval_c _ _ _)) | (go_at_call 18; exact Calls.quiet_of_same (has_yes _ _ _ _ (hl _) (eql_sval _ _ _) (fun i j => guard_sval _ _ i j _))))
        go_wp2
        go_roundw
        case rel => exact ⟨2, by omega, by go_num, by rw [hcc]; go_num, HC.out.drewN _, below_drewN HBel.out _⟩
        case measure => simp [intOf]

    · -- round 2
      by_cases ht : t2.tmod 4 = 0
      · have d1 : wr.cell? ⟨w.heap.size, 5, none⟩ = some (.int .u8 t2) := cell_at HC.out.bx rfl
        have d2 : wr.cell? ⟨w.heap.size, 6, none⟩ = some (.string s2) := cell_at HC.out.bx rfl
        have d3 : wr.cell? ⟨w1.heap.size, 2, none⟩ = some (.string ⟨#[110, 97, 109, 101]⟩) := cell_at HC.out.kb rfl
        have hl : ∀ q, (Instr.lookup 23 (.map (some b)) (.string ⟨#[110, 97, 109, 101]⟩) true).run Ybaf.prog (wr.drewN q) = .ok (.tuple #[.nilIface, .bool false]) (wr.drewN q) := fun q => look_no HC.out.mp sK2 ((Mem.at2 ⟨k, t0, s0, t1, s1, t2, s2, t3, s3, ct, cb, bt, bb⟩ d d).trans (by simp [sent, ht])) q
        have hcc : Mem.cN ⟨k, t0, s0, t1, s1, t2, s2, t3, s3, ct, cb, bt, bb⟩ 2 = Mem.cN ⟨k, t0, s0, t1, s1, t2, s2, t3, s3, ct, cb, bt, bb⟩ 3 := by simp [Mem.cN, Mem.c3, sent, cn, ht]
        rw [hcc]
        go_wp2_with fail
        go_quiet (first | (go_at_call 10; exact Calls.quiet_of_same (sval_c _ _ _)) | (go_at_call 18; exact Calls.quiet_of_same (has_no _ _ _ _ _ (hl _))))
        go_wp2
        go_roundw
        case rel => exact ⟨3, by omega, by go_num, rfl, HC.out.drewN _, below_drewN HBel.out _⟩
        case measure => simp [intOf]
      · have d1 : wr.cell? ⟨w.heap.size, 5, none⟩ = some (.int .u8 t2) := cell_at HC.out.bx rfl
        have d2 : wr.cell? ⟨w.heap.size, 6, none⟩ = some (.string s2) := cell_at HC.out.bx rfl
        have d3 : wr.cell? ⟨w1.heap.size, 2, none⟩ = some (.string ⟨#[110, 97, 109, 101]⟩) := cell_at HC.out.kb rfl
        have hl : ∀ q, (Instr.lookup 23 (.map (some b)) (.string ⟨#[110, 97, 109, 101]⟩) true).run Ybaf.prog (wr.drewN q) = .ok (.tuple #[sval (t2.tmod 4) s2, .bool true]) (wr.drewN q) := fun q => look_yes HC.out.mp sK2 ((Mem.at2 ⟨k, t0, s0, t1, s1, t2, s2, t3, s3, ct, cb, bt, bb⟩ d d).trans (by simp [sent, ht])) q
        have hcc : Mem.cN ⟨k, t0, s0, t1, s1, t2, s2, t3, s3, ct, cb, bt, bb⟩ 3 = Mem.cN ⟨k, t0, s0, t1, s1, t2, s2, t3, s3, ct, cb, bt, bb⟩ 2 + 1 := by simp [Mem.cN, Mem.c3, sent, cn, ht]
        have hcl := Mem.cN_lt ⟨k, t0, s0, t1, s1, t2, s2, t3, s3, ct, cb, bt, bb⟩ 2
        generalize Mem.cN ⟨k, t0, s0, t1, s1, t2, s2, t3, s3, ct, cb, bt, bb⟩ 2 = c at hcc hcl
        go_wp2_with fail
        go_quiet (first | (go_at_call 10; exact Calls.quiet_of_same (sval_c _ _ _)) | (go_at_call 18; exact Calls.quiet_of_same (has_yes _ _ _ _ (hl _) (eql_sval _ _ _) (fun i j => guard_sval _ _ i j _))))
        go_wp2
        go_roundw
        case rel => exact ⟨3, by omega, by go_num, by rw [hcc]; go_num, HC.out.drewN _, below_drewN HBel.out _⟩
        case measure => simp [intOf]

    · -- round 3
      by_cases ht : t3.tmod 4 = 0
      · have d1 : wr.cell? ⟨w.heap.size, 7, none⟩ = some (.int .u8 t3) := cell_at HC.out.bx rfl
        have d2 : wr.cell? ⟨w.heap.size, 8, none⟩ = some (.string s3) := cell_at HC.out.bx rfl
        have d3 : wr.cell? ⟨w1.heap.size, 3, none⟩ = some (.string ⟨#[117, 105, 100]⟩) := cell_at HC.out.kb rfl
        have hl : ∀ q, (Instr.lookup 23 (.map (some b)) (.string ⟨#[117, 105, 100]⟩) true).run Ybaf.prog (wr.drewN q) = .ok (.tuple #[.nilIface, .bool false]) (wr.drewN q) := fun q => look_no HC.out.mp sK3 ((Mem.at3 ⟨k, t0, s0, t1, s1, t2, s2, t3, s3, ct, cb, bt, bb⟩ d d).trans (by simp [sent, ht])) q
        have hcc : Mem.cN ⟨k, t0, s0, t1, s1, t2, s2, t3, s3, ct, cb, bt, bb⟩ 3 = Mem.cN ⟨k, t0, s0, t1, s1, t2, s2, t3, s3, ct, cb, bt, bb⟩ 4 := by simp [Mem.cN, Mem.c4, sent, cn, ht]
        rw [hcc]
        go_wp2_with fail
        go_quiet (first | (go_at_call 10; exact Calls.quiet_of_same (sval_c _ _ _)) | (go_at_call 18; exact Calls.quiet_of_same (has_no _ _ _ _ _ (hl _))))
        go_wp2
        go_roundw
        case rel => exact ⟨4, by omega, by go_num, rfl, HC.out.drewN _, below_drewN HBel.out _⟩
        case measure => simp [intOf]
      · have d1 : wr.cell? ⟨w.heap.size, 7, none⟩ = some (.int .u8 t3) := cell_at HC.out.bx rfl
        have d2 : wr.cell? ⟨w.heap.size, 8, none⟩ = some (.string s3) := cell_at HC.out.bx rfl
        have d3 : wr.cell? ⟨w1.heap.size, 3, none⟩ = some (.string ⟨#[117, 105, 100]⟩) := cell_at HC.out.kb rfl
        have hl : ∀ q, (Instr.lookup 23 (.map (some b)) (.string ⟨#[117, 105, 100]⟩) true).run Ybaf.prog (wr.drewN q) = .ok (.tuple #[sval (t3.tmod 4) s3, .bool true]) (wr.drewN q) := fun q => look_yes HC.out.mp sK3 ((Mem.at3 ⟨k, t0, s0, t1, s1, t2, s2, t3, s3, ct, cb, bt, bb⟩ d d).trans (by simp [sent, ht])) q
        have hcc : Mem.cN ⟨k, t0, s0, t1, s1, t2, s2, t3, s3, ct, cb, bt, bb⟩ 4 = Mem.cN ⟨k, t0, s0, t1, s1, t2, s2, t3, s3, ct, cb, bt, bb⟩ 3 + 1 := by simp [Mem.cN, Mem.c4, sent, cn, ht]
        have hcl := Mem.cN_lt ⟨k, t0, s0, t1, s1, t2, s2, t3, s3, ct, cb, bt, bb⟩ 3
        generalize Mem.cN ⟨k, t0, s0, t1, s1, t2, s2, t3, s3, ct, cb, bt, bb⟩ 3 = c at hcc hcl
        go_wp2_with fail
        go_quiet (first | (go_at_call 10; exact Calls.quiet_of_same (sval_c _ _ _)) | (go_at_call 18; exact Calls.quiet_of_same (has_yes _ _ _ _ (hl _) (eql_sval _ _ _) (fun i j => guard_sval _ _ i j _))))
        go_wp2
        go_roundw
        case rel => exact ⟨4, by omega, by go_num, by rw [hcc]; go_num, HC.out.drewN _, below_drewN HBel.out _⟩
        case measure => simp [intOf]
    · -- behind the loop
      have d9 : wr.cell? ⟨w.heap.size, 9, none⟩ = some (.int .u8 ct) := cell_at HC.out.bx rfl
      have d10 : wr.cell? ⟨w.heap.size, 10, none⟩ = some (.bool cb) := cell_at HC.out.bx rfl
      have d11 : wr.cell? ⟨w.heap.size, 11, none⟩ = some (.int .u8 bt) := cell_at HC.out.bx rfl
      have d12 : wr.cell? ⟨w.heap.size, 12, none⟩ = some (.bool bb) := cell_at HC.out.bx rfl
      have hlen := fun ty => HC.out.mp.len ty
      have hc6 : Mem.c6 ⟨k, t0, s0, t1, s1, t2, s2, t3, s3, ct, cb, bt, bb⟩ d d = Mem.cN ⟨k, t0, s0, t1, s1, t2, s2, t3, s3, ct, cb, bt, bb⟩ 4 + cn (bent d ct cb) + cn (bent d bt bb) := rfl
      have hcl := Mem.cN_lt ⟨k, t0, s0, t1, s1, t2, s2, t3, s3, ct, cb, bt, bb⟩ 4
      have lC := fun e1 => look_no HC.out.mp sKC (e := e1) 0
      have lB := fun e1 => look_no HC.out.mp sKB (e := e1) 0
      have yC := fun v e1 => look_yes (v := v) HC.out.mp sKC (e := e1) 0
      have yB := fun v e1 => look_yes (v := v) HC.out.mp sKB (e := e1) 0
      have aC := Mem.atC ⟨k, t0, s0, t1, s1, t2, s2, t3, s3, ct, cb, bt, bb⟩ d d
      have aB := Mem.atB ⟨k, t0, s0, t1, s1, t2, s2, t3, s3, ct, cb, bt, bb⟩ d d
      rw [aC] at lC yC
      rw [aB] at lB yB
      rw [hc6] at hlen
      have HLC := hid lC; have HLB := hid lB; have HYC := hid yC; have HYB := hid yB; have HLEN := hid hlen
      clear lC lB yC yB aC aB hlen hc6
      generalize Mem.cN ⟨k, t0, s0, t1, s1, t2, s2, t3, s3, ct, cb, bt, bb⟩ 4 = c at hcl HLEN
      cases d with
      | false =>
        by_cases gC : ct.tmod 4 = 0
        · by_cases gB : bt.tmod 4 = 0
          · have eC : bent false ct cb = none := by simp [bent, gC]
            have lC : (Instr.lookup 23 (.map (some b)) (.string ⟨#[99, 111, 110, 116, 114, 111, 108, 108, 101, 114]⟩) true).run Ybaf.prog wr = .ok (.tuple #[.nilIface, .bool false]) wr := HLC.out eC
            have eB : bent false bt bb = none := by simp [bent, gB]
            have lB : (Instr.lookup 23 (.map (some b)) (.string ⟨#[98, 108, 111, 99, 107, 79, 119, 110, 101, 114, 68, 101, 108, 101, 116, 105, 111, 110]⟩) true).run Ybaf.prog wr = .ok (.tuple #[.nilIface, .bool false]) wr := HLB.out eB
            have hlen : ∀ ty, (Builtin.len_ #[23] ty #[.map (some b)]).run Ybaf.prog wr = .ok (.int .i64 ((c : Nat) : Int)) wr := fun ty => by have := HLEN.out ty; rw [eC, eB] at this; exact this
            clear HLC HLB HYC HYB HLEN eC eB
            go_wp2_with (first | (go_at_call 11; refine (bval_c _ _ _).mono ?_; rintro e w' ⟨rfl, rfl⟩))
            refine (has_no _ ⟨#[99, 111, 110, 116, 114, 111, 108, 108, 101, 114]⟩ _ _ _ lC).mono ?_
            rintro e w' ⟨rfl, rfl⟩
            go_wp2_with (first | (go_at_call 11; refine (bval_c _ _ _).mono ?_; rintro e w' ⟨rfl, rfl⟩))
            refine (has_no _ ⟨#[98, 108, 111, 99, 107, 79, 119, 110, 101, 114, 68, 101, 108, 101, 116, 105, 111, 110]⟩ _ _ _ lB).mono ?_
            rintro e w' ⟨rfl, rfl⟩
            go_wp2
            go_ret
            exact ⟨by simp, HBel.out⟩
          · have eC : bent false ct cb = none := by simp [bent, gC]
            have lC : (Instr.lookup 23 (.map (some b)) (.string ⟨#[99, 111, 110, 116, 114, 111, 108, 108, 101, 114]⟩) true).run Ybaf.prog wr = .ok (.tuple #[.nilIface, .bool false]) wr := HLC.out eC
            have eB : bent false bt bb = some (bval (bt.tmod 4) bb) := by simp [bent, gB]
            have lB : (Instr.lookup 23 (.map (some b)) (.string ⟨#[98, 108, 111, 99, 107, 79, 119, 110, 101, 114, 68, 101, 108, 101, 116, 105, 111, 110]⟩) true).run Ybaf.prog wr = .ok (.tuple #[bval (bt.tmod 4) bb, .bool true]) wr := HYB.out _ eB
            have hlen : ∀ ty, (Builtin.len_ #[23] ty #[.map (some b)]).run Ybaf.prog wr = .ok (.int .i64 ((c + 1 : Nat) : Int)) wr := fun ty => by have := HLEN.out ty; rw [eC, eB] at this; exact this
            clear HLC HLB HYC HYB HLEN eC eB
            go_wp2_with (first | (go_at_call 11; refine (bval_c _ _ _).mono ?_; rintro e w' ⟨rfl, rfl⟩))
            refine (has_no _ ⟨#[99, 111, 110, 116, 114, 111, 108, 108, 101, 114]⟩ _ _ _ lC).mono ?_
            rintro e w' ⟨rfl, rfl⟩
            go_wp2_with (first | (go_at_call 11; refine (bval_c _ _ _).mono ?_; rintro e w' ⟨rfl, rfl⟩))
            refine (has_yes _ ⟨#[98, 108, 111, 99, 107, 79, 119, 110, 101, 114, 68, 101, 108, 101, 116, 105, 111, 110]⟩ _ _ lB (eql_bval _ _ _) (fun i j => guard_bval _ _ i j _)).mono ?_
            rintro e w' ⟨rfl, rfl⟩
            go_wp2
            go_ret
            exact ⟨by simp, HBel.out⟩
        · by_cases gB : bt.tmod 4 = 0
          · have eC : bent false ct cb = some (bval (ct.tmod 4) cb) := by simp [bent, gC]
            have lC : (Instr.lookup 23 (.map (some b)) (.string ⟨#[99, 111, 110, 116, 114, 111, 108, 108, 101, 114]⟩) true).run Ybaf.prog wr = .ok (.tuple #[bval (ct.tmod 4) cb, .bool true]) wr := HYC.out _ eC
            have eB : bent false bt bb = none := by simp [bent, gB]
            have lB : (Instr.lookup 23 (.map (some b)) (.string ⟨#[98, 108, 111, 99, 107, 79, 119, 110, 101, 114, 68, 101, 108, 101, 116, 105, 111, 110]⟩) true).run Ybaf.prog wr = .ok (.tuple #[.nilIface, .bool false]) wr := HLB.out eB
            have hlen : ∀ ty, (Builtin.len_ #[23] ty #[.map (some b)]).run Ybaf.prog wr = .ok (.int .i64 ((c + 1 : Nat) : Int)) wr := fun ty => by have := HLEN.out ty; rw [eC, eB] at this; exact this
            clear HLC HLB HYC HYB HLEN eC eB
            go_wp2_with (first | (go_at_call 11; refine (bval_c _ _ _).mono ?_; rintro e w' ⟨rfl, rfl⟩))
            refine (has_yes _ ⟨#[99, 111, 110, 116, 114, 111, 108, 108, 101, 114]⟩ _ _ lC (eql_bval _ _ _) (fun i j => guard_bval _ _ i j _)).mono ?_
            rintro e w' ⟨rfl, rfl⟩
            go_wp2_with (first | (go_at_call 11; refine (bval_c _ _ _).mono ?_; rintro e w' ⟨rfl, rfl⟩))
            refine (has_no _ ⟨#[98, 108, 111, 99, 107, 79, 119, 110, 101, 114, 68, 101, 108, 101, 116, 105, 111, 110]⟩ _ _ _ lB).mono ?_
            rintro e w' ⟨rfl, rfl⟩
            go_wp2
            go_ret
            exact ⟨by simp, HBel.out⟩
          · have eC : bent false ct cb = some (bval (ct.tmod 4) cb) := by simp [bent, gC]
            have lC : (Instr.lookup 23 (.map (some b)) (.string ⟨#[99, 111, 110, 116, 114, 111, 108, 108, 101, 114]⟩) true).run Ybaf.prog wr = .ok (.tuple #[bval (ct.tmod 4) cb, .bool true]) wr := HYC.out _ eC
            have eB : bent false bt bb = some (bval (bt.tmod 4) bb) := by simp [bent, gB]
            have lB : (Instr.lookup 23 (.map (some b)) (.string ⟨#[98, 108, 111, 99, 107, 79, 119, 110, 101, 114, 68, 101, 108, 101, 116, 105, 111, 110]⟩) true).run Ybaf.prog wr = .ok (.tuple #[bval (bt.tmod 4) bb, .bool true]) wr := HYB.out _ eB
            have hlen : ∀ ty, (Builtin.len_ #[23] ty #[.map (some b)]).run Ybaf.prog wr = .ok (.int .i64 ((c + 1 + 1 : Nat) : Int)) wr := fun ty => by have := HLEN.out ty; rw [eC, eB] at this; exact this
            clear HLC HLB HYC HYB HLEN eC eB
            go_wp2_with (first | (go_at_call 11; refine (bval_c _ _ _).mono ?_; rintro e w' ⟨rfl, rfl⟩))
            refine (has_yes _ ⟨#[99, 111, 110, 116, 114, 111, 108, 108, 101, 114]⟩ _ _ lC (eql_bval _ _ _) (fun i j => guard_bval _ _ i j _)).mono ?_
            rintro e w' ⟨rfl, rfl⟩
            go_wp2_with (first | (go_at_call 11; refine (bval_c _ _ _).mono ?_; rintro e w' ⟨rfl, rfl⟩))
            refine (has_yes _ ⟨#[98, 108, 111, 99, 107, 79, 119, 110, 101, 114, 68, 101, 108, 101, 116, 105, 111, 110]⟩ _ _ lB (eql_bval _ _ _) (fun i j => guard_bval _ _ i j _)).mono ?_
            rintro e w' ⟨rfl, rfl⟩
            go_wp2
            go_ret
            exact ⟨by simp, HBel.out⟩
      | true =>
        by_cases gC : ct.tmod 4 = 0
        · by_cases gB : bt.tmod 4 = 0
          · have eC : bent true ct cb = none := by simp [bent, gC]
            have lC : (Instr.lookup 23 (.map (some b)) (.string ⟨#[99, 111, 110, 116, 114, 111, 108, 108, 101, 114]⟩) true).run Ybaf.prog wr = .ok (.tuple #[.nilIface, .bool false]) wr := HLC.out eC
            have eB : bent true bt bb = none := by simp [bent, gB]
            have lB : (Instr.lookup 23 (.map (some b)) (.string ⟨#[98, 108, 111, 99, 107, 79, 119, 110, 101, 114, 68, 101, 108, 101, 116, 105, 111, 110]⟩) true).run Ybaf.prog wr = .ok (.tuple #[.nilIface, .bool false]) wr := HLB.out eB
            have hlen : ∀ ty, (Builtin.len_ #[23] ty #[.map (some b)]).run Ybaf.prog wr = .ok (.int .i64 ((c : Nat) : Int)) wr := fun ty => by have := HLEN.out ty; rw [eC, eB] at this; exact this
            clear HLC HLB HYC HYB HLEN eC eB
            go_wp2_with (first | (go_at_call 11; refine (bval_c _ _ _).mono ?_; rintro e w' ⟨rfl, rfl⟩))
            refine (has_no _ ⟨#[99, 111, 110, 116, 114, 111, 108, 108, 101, 114]⟩ _ _ _ lC).mono ?_
            rintro e w' ⟨rfl, rfl⟩
            go_wp2_with (first | (go_at_call 11; refine (bval_c _ _ _).mono ?_; rintro e w' ⟨rfl, rfl⟩))
            refine (has_no _ ⟨#[98, 108, 111, 99, 107, 79, 119, 110, 101, 114, 68, 101, 108, 101, 116, 105, 111, 110]⟩ _ _ _ lB).mono ?_
            rintro e w' ⟨rfl, rfl⟩
            go_wp2
            go_ret
            exact ⟨by simp, HBel.out⟩
          · by_cases gB1 : bt.tmod 4 = 1
            · have gBx := gB
              clear gBx gB
              have gB := gB1
              clear gB1
              have eC : bent true ct cb = none := by simp [bent, gC]
              have lC : (Instr.lookup 23 (.map (some b)) (.string ⟨#[99, 111, 110, 116, 114, 111, 108, 108, 101, 114]⟩) true).run Ybaf.prog wr = .ok (.tuple #[.nilIface, .bool false]) wr := HLC.out eC
              have eB : bent true bt bb = none := by simp [bent, gB]
              have lB : (Instr.lookup 23 (.map (some b)) (.string ⟨#[98, 108, 111, 99, 107, 79, 119, 110, 101, 114, 68, 101, 108, 101, 116, 105, 111, 110]⟩) true).run Ybaf.prog wr = .ok (.tuple #[.nilIface, .bool false]) wr := HLB.out eB
              have hlen : ∀ ty, (Builtin.len_ #[23] ty #[.map (some b)]).run Ybaf.prog wr = .ok (.int .i64 ((c : Nat) : Int)) wr := fun ty => by have := HLEN.out ty; rw [eC, eB] at this; exact this
              clear HLC HLB HYC HYB HLEN eC eB
              go_wp2_with (first | (go_at_call 11; refine (bval_c _ _ _).mono ?_; rintro e w' ⟨rfl, rfl⟩))
              refine (has_no _ ⟨#[99, 111, 110, 116, 114, 111, 108, 108, 101, 114]⟩ _ _ _ lC).mono ?_
              rintro e w' ⟨rfl, rfl⟩
              go_wp2_with (first | (go_at_call 11; refine (bval_c _ _ _).mono ?_; rintro e w' ⟨rfl, rfl⟩))
              refine (has_no _ ⟨#[98, 108, 111, 99, 107, 79, 119, 110, 101, 114, 68, 101, 108, 101, 116, 105, 111, 110]⟩ _ _ _ lB).mono ?_
              rintro e w' ⟨rfl, rfl⟩
              go_wp2
              go_ret
              exact ⟨by simp, HBel.out⟩
            · have eC : bent true ct cb = none := by simp [bent, gC]
              have lC : (Instr.lookup 23 (.map (some b)) (.string ⟨#[99, 111, 110, 116, 114, 111, 108, 108, 101, 114]⟩) true).run Ybaf.prog wr = .ok (.tuple #[.nilIface, .bool false]) wr := HLC.out eC
              have eB : bent true bt bb = some (bval (bt.tmod 4) bb) := by simp [bent, gB, gB1]
              have lB : (Instr.lookup 23 (.map (some b)) (.string ⟨#[98, 108, 111, 99, 107, 79, 119, 110, 101, 114, 68, 101, 108, 101, 116, 105, 111, 110]⟩) true).run Ybaf.prog wr = .ok (.tuple #[bval (bt.tmod 4) bb, .bool true]) wr := HYB.out _ eB
              have qB : (bt.tmod 4 != 0 && !bt.tmod 4 == 1) = true := by simp [gB, gB1]
              have hlen : ∀ ty, (Builtin.len_ #[23] ty #[.map (some b)]).run Ybaf.prog wr = .ok (.int .i64 ((c + 1 : Nat) : Int)) wr := fun ty => by have := HLEN.out ty; rw [eC, eB] at this; exact this
              clear HLC HLB HYC HYB HLEN eC eB
              go_wp2_with (first | (go_at_call 11; refine (bval_c _ _ _).mono ?_; rintro e w' ⟨rfl, rfl⟩))
              refine (has_no _ ⟨#[99, 111, 110, 116, 114, 111, 108, 108, 101, 114]⟩ _ _ _ lC).mono ?_
              rintro e w' ⟨rfl, rfl⟩
              go_wp2_with (first | (go_at_call 11; refine (bval_c _ _ _).mono ?_; rintro e w' ⟨rfl, rfl⟩))
              refine (has_yes _ ⟨#[98, 108, 111, 99, 107, 79, 119, 110, 101, 114, 68, 101, 108, 101, 116, 105, 111, 110]⟩ _ _ lB (eql_bval _ _ _) (fun i j => guard_bval _ _ i j _)).mono ?_
              rintro e w' ⟨rfl, rfl⟩
              go_wp2
              go_ret
              exact ⟨by simp, HBel.out⟩
        · by_cases gC1 : ct.tmod 4 = 1
          · have gCx := gC
            clear gCx gC
            have gC := gC1
            clear gC1
            by_cases gB : bt.tmod 4 = 0
            · have eC : bent true ct cb = none := by simp [bent, gC]
              have lC : (Instr.lookup 23 (.map (some b)) (.string ⟨#[99, 111, 110, 116, 114, 111, 108, 108, 101, 114]⟩) true).run Ybaf.prog wr = .ok (.tuple #[.nilIface, .bool false]) wr := HLC.out eC
              have eB : bent true bt bb = none := by simp [bent, gB]
              have lB : (Instr.lookup 23 (.map (some b)) (.string ⟨#[98, 108, 111, 99, 107, 79, 119, 110, 101, 114, 68, 101, 108, 101, 116, 105, 111, 110]⟩) true).run Ybaf.prog wr = .ok (.tuple #[.nilIface, .bool false]) wr := HLB.out eB
              have hlen : ∀ ty, (Builtin.len_ #[23] ty #[.map (some b)]).run Ybaf.prog wr = .ok (.int .i64 ((c : Nat) : Int)) wr := fun ty => by have := HLEN.out ty; rw [eC, eB] at this; exact this
              clear HLC HLB HYC HYB HLEN eC eB
              go_wp2_with (first | (go_at_call 11; refine (bval_c _ _ _).mono ?_; rintro e w' ⟨rfl, rfl⟩))
              refine (has_no _ ⟨#[99, 111, 110, 116, 114, 111, 108, 108, 101, 114]⟩ _ _ _ lC).mono ?_
              rintro e w' ⟨rfl, rfl⟩
              go_wp2_with (first | (go_at_call 11; refine (bval_c _ _ _).mono ?_; rintro e w' ⟨rfl, rfl⟩))
              refine (has_no _ ⟨#[98, 108, 111, 99, 107, 79, 119, 110, 101, 114, 68, 101, 108, 101, 116, 105, 111, 110]⟩ _ _ _ lB).mono ?_
              rintro e w' ⟨rfl, rfl⟩
              go_wp2
              go_ret
              exact ⟨by simp, HBel.out⟩
            · by_cases gB1 : bt.tmod 4 = 1
              · have gBx := gB
                clear gBx gB
                have gB := gB1
                clear gB1
                have eC : bent true ct cb = none := by simp [bent, gC]
                have lC : (Instr.lookup 23 (.map (some b)) (.string ⟨#[99, 111, 110, 116, 114, 111, 108, 108, 101, 114]⟩) true).run Ybaf.prog wr = .ok (.tuple #[.nilIface, .bool false]) wr := HLC.out eC
                have eB : bent true bt bb = none := by simp [bent, gB]
                have lB : (Instr.lookup 23 (.map (some b)) (.string ⟨#[98, 108, 111, 99, 107, 79, 119, 110, 101, 114, 68, 101, 108, 101, 116, 105, 111, 110]⟩) true).run Ybaf.prog wr = .ok (.tuple #[.nilIface, .bool false]) wr := HLB.out eB
                have hlen : ∀ ty, (Builtin.len_ #[23] ty #[.map (some b)]).run Ybaf.prog wr = .ok (.int .i64 ((c : Nat) : Int)) wr := fun ty => by have := HLEN.out ty; rw [eC, eB] at this; exact this
                clear HLC HLB HYC HYB HLEN eC eB
                go_wp2_with (first | (go_at_call 11; refine (bval_c _ _ _).mono ?_; rintro e w' ⟨rfl, rfl⟩))
                refine (has_no _ ⟨#[99, 111, 110, 116, 114, 111, 108, 108, 101, 114]⟩ _ _ _ lC).mono ?_
                rintro e w' ⟨rfl, rfl⟩
                go_wp2_with (first | (go_at_call 11; refine (bval_c _ _ _).mono ?_; rintro e w' ⟨rfl, rfl⟩))
                refine (has_no _ ⟨#[98, 108, 111, 99, 107, 79, 119, 110, 101, 114, 68, 101, 108, 101, 116, 105, 111, 110]⟩ _ _ _ lB).mono ?_
                rintro e w' ⟨rfl, rfl⟩
                go_wp2
                go_ret
                exact ⟨by simp, HBel.out⟩
              · have eC : bent true ct cb = none := by simp [bent, gC]
                have lC : (Instr.lookup 23 (.map (some b)) (.string ⟨#[99, 111, 110, 116, 114, 111, 108, 108, 101, 114]⟩) true).run Ybaf.prog wr = .ok (.tuple #[.nilIface, .bool false]) wr := HLC.out eC
                have eB : bent true bt bb = some (bval (bt.tmod 4) bb) := by simp [bent, gB, gB1]
                have lB : (Instr.lookup 23 (.map (some b)) (.string ⟨#[98, 108, 111, 99, 107, 79, 119, 110, 101, 114, 68, 101, 108, 101, 116, 105, 111, 110]⟩) true).run Ybaf.prog wr = .ok (.tuple #[bval (bt.tmod 4) bb, .bool true]) wr := HYB.out _ eB
                have qB : (bt.tmod 4 != 0 && !bt.tmod 4 == 1) = true := by simp [gB, gB1]
                have hlen : ∀ ty, (Builtin.len_ #[23] ty #[.map (some b)]).run Ybaf.prog wr = .ok (.int .i64 ((c + 1 : Nat) : Int)) wr := fun ty => by have := HLEN.out ty; rw [eC, eB] at this; exact this
                clear HLC HLB HYC HYB HLEN eC eB
                go_wp2_with (first | (go_at_call 11; refine (bval_c _ _ _).mono ?_; rintro e w' ⟨rfl, rfl⟩))
                refine (has_no _ ⟨#[99, 111, 110, 116, 114, 111, 108, 108, 101, 114]⟩ _ _ _ lC).mono ?_
                rintro e w' ⟨rfl, rfl⟩
                go_wp2_with (first | (go_at_call 11; refine (bval_c _ _ _).mono ?_; rintro e w' ⟨rfl, rfl⟩))
                refine (has_yes _ ⟨#[98, 108, 111, 99, 107, 79, 119, 110, 101, 114, 68, 101, 108, 101, 116, 105, 111, 110]⟩ _ _ lB (eql_bval _ _ _) (fun i j => guard_bval _ _ i j _)).mono ?_
                rintro e w' ⟨rfl, rfl⟩
                go_wp2
                go_ret
                exact ⟨by simp, HBel.out⟩
          · by_cases gB : bt.tmod 4 = 0
            · have eC : bent true ct cb = some (bval (ct.tmod 4) cb) := by simp [bent, gC, gC1]
              have lC : (Instr.lookup 23 (.map (some b)) (.string ⟨#[99, 111, 110, 116, 114, 111, 108, 108, 101, 114]⟩) true).run Ybaf.prog wr = .ok (.tuple #[bval (ct.tmod 4) cb, .bool true]) wr := HYC.out _ eC
              have qC : (ct.tmod 4 != 0 && !ct.tmod 4 == 1) = true := by simp [gC, gC1]
              have eB : bent true bt bb = none := by simp [bent, gB]
              have lB : (Instr.lookup 23 (.map (some b)) (.string ⟨#[98, 108, 111, 99, 107, 79, 119, 110, 101, 114, 68, 101, 108, 101, 116, 105, 111, 110]⟩) true).run Ybaf.prog wr = .ok (.tuple #[.nilIface, .bool false]) wr := HLB.out eB
              have hlen : ∀ ty, (Builtin.len_ #[23] ty #[.map (some b)]).run Ybaf.prog wr = .ok (.int .i64 ((c + 1 : Nat) : Int)) wr := fun ty => by have := HLEN.out ty; rw [eC, eB] at this; exact this
              clear HLC HLB HYC HYB HLEN eC eB
              go_wp2_with (first | (go_at_call 11; refine (bval_c _ _ _).mono ?_; rintro e w' ⟨rfl, rfl⟩))
              refine (has_yes _ ⟨#[99, 111, 110, 116, 114, 111, 108, 108, 101, 114]⟩ _ _ lC (eql_bval _ _ _) (fun i j => guard_bval _ _ i j _)).mono ?_
              rintro e w' ⟨rfl, rfl⟩
              go_wp2_with (first | (go_at_call 11; refine (bval_c _ _ _).mono ?_; rintro e w' ⟨rfl, rfl⟩))
              refine (has_no _ ⟨#[98, 108, 111, 99, 107, 79, 119, 110, 101, 114, 68, 101, 108, 101, 116, 105, 111, 110]⟩ _ _ _ lB).mono ?_
              rintro e w' ⟨rfl, rfl⟩
              go_wp2
              go_ret
              exact ⟨by simp, HBel.out⟩
            · by_cases gB1 : bt.tmod 4 = 1
              · have gBx := gB
                clear gBx gB
                have gB := gB1
                clear gB1
                have eC : bent true ct cb = some (bval (ct.tmod 4) cb) := by simp [bent, gC, gC1]
                have lC : (Instr.lookup 23 (.map (some b)) (.string ⟨#[99, 111, 110, 116, 114, 111, 108, 108, 101, 114]⟩) true).run Ybaf.prog wr = .ok (.tuple #[bval (ct.tmod 4) cb, .bool true]) wr := HYC.out _ eC
                have qC : (ct.tmod 4 != 0 && !ct.tmod 4 == 1) = true := by simp [gC, gC1]
                have eB : bent true bt bb = none := by simp [bent, gB]
                have lB : (Instr.lookup 23 (.map (some b)) (.string ⟨#[98, 108, 111, 99, 107, 79, 119, 110, 101, 114, 68, 101, 108, 101, 116, 105, 111, 110]⟩) true).run Ybaf.prog wr = .ok (.tuple #[.nilIface, .bool false]) wr := HLB.out eB
                have hlen : ∀ ty, (Builtin.len_ #[23] ty #[.map (some b)]).run Ybaf.prog wr = .ok (.int .i64 ((c + 1 : Nat) : Int)) wr := fun ty => by have := HLEN.out ty; rw [eC, eB] at this; exact this
                clear HLC HLB HYC HYB HLEN eC eB
                go_wp2_with (first | (go_at_call 11; refine (bval_c _ _ _).mono ?_; rintro e w' ⟨rfl, rfl⟩))
                refine (has_yes _ ⟨#[99, 111, 110, 116, 114, 111, 108, 108, 101, 114]⟩ _ _ lC (eql_bval _ _ _) (fun i j => guard_bval _ _ i j _)).mono ?_
                rintro e w' ⟨rfl, rfl⟩
                go_wp2_with (first | (go_at_call 11; refine (bval_c _ _ _).mono ?_; rintro e w' ⟨rfl, rfl⟩))
                refine (has_no _ ⟨#[98, 108, 111, 99, 107, 79, 119, 110, 101, 114, 68, 101, 108, 101, 116, 105, 111, 110]⟩ _ _ _ lB).mono ?_
                rintro e w' ⟨rfl, rfl⟩
                go_wp2
                go_ret
                exact ⟨by simp, HBel.out⟩
              · have eC : bent true ct cb = some (bval (ct.tmod 4) cb) := by simp [bent, gC, gC1]
                have lC : (Instr.lookup 23 (.map (some b)) (.string ⟨#[99, 111, 110, 116, 114, 111, 108, 108, 101, 114]⟩) true).run Ybaf.prog wr = .ok (.tuple #[bval (ct.tmod 4) cb, .bool true]) wr := HYC.out _ eC
                have qC : (ct.tmod 4 != 0 && !ct.tmod 4 == 1) = true := by simp [gC, gC1]
                have eB : bent true bt bb = some (bval (bt.tmod 4) bb) := by simp [bent, gB, gB1]
                have lB : (Instr.lookup 23 (.map (some b)) (.string ⟨#[98, 108, 111, 99, 107, 79, 119, 110, 101, 114, 68, 101, 108, 101, 116, 105, 111, 110]⟩) true).run Ybaf.prog wr = .ok (.tuple #[bval (bt.tmod 4) bb, .bool true]) wr := HYB.out _ eB
                have qB : (bt.tmod 4 != 0 && !bt.tmod 4 == 1) = true := by simp [gB, gB1]
                have hlen : ∀ ty, (Builtin.len_ #[23] ty #[.map (some b)]).run Ybaf.prog wr = .ok (.int .i64 ((c + 1 + 1 : Nat) : Int)) wr := fun ty => by have := HLEN.out ty; rw [eC, eB] at this; exact this
                clear HLC HLB HYC HYB HLEN eC eB
                go_wp2_with (first | (go_at_call 11; refine (bval_c _ _ _).mono ?_; rintro e w' ⟨rfl, rfl⟩))
                refine (has_yes _ ⟨#[99, 111, 110, 116, 114, 111, 108, 108, 101, 114]⟩ _ _ lC (eql_bval _ _ _) (fun i j => guard_bval _ _ i j _)).mono ?_
                rintro e w' ⟨rfl, rfl⟩
                go_wp2_with (first | (go_at_call 11; refine (bval_c _ _ _).mono ?_; rintro e w' ⟨rfl, rfl⟩))
                refine (has_yes _ ⟨#[98, 108, 111, 99, 107, 79, 119, 110, 101, 114, 68, 101, 108, 101, 116, 105, 111, 110]⟩ _ _ lB (eql_bval _ _ _) (fun i j => guard_bval _ _ i j _)).mono ?_
                rintro e w' ⟨rfl, rfl⟩
                go_wp2
                go_ret
                exact ⟨by simp, HBel.out⟩


set_option maxHeartbeats 1600000 in
theorem check_2 (k t0 t1 t2 t3 ct bt : Int) (s0 s1 s2 s3 : ByteArray) (cb bb : Bool) (d : Bool) (w : World) (h2 : k.tmod 4 = 2) :
    Calls Ybaf.prog 8 #[.nilIface, .agg #[.int .u8 k, .int .u8 t0, .string s0, .int .u8 t1, .string s1, .int .u8 t2, .string s2, .int .u8 t3, .string s3, .int .u8 ct, .bool cb, .int .u8 bt, .bool bb], .bool d] w fun e w' => e = .returned (.bool true) ∧ Below w.heap.size w w' := by
  go_enter Ybaf.func8, Ybaf.ntmps8
  go_wp2
  go_ret
  exact ⟨rfl, (Below.refl _ w).alloc (Nat.le_refl _) _⟩

set_option maxHeartbeats 1600000 in
theorem check_3 (k t0 t1 t2 t3 ct bt : Int) (s0 s1 s2 s3 : ByteArray) (cb bb : Bool) (d : Bool) (w : World) (h3 : k.tmod 4 = 3) :
    Calls Ybaf.prog 8 #[.iface 9 (.string ⟨#[109, 101, 109, 98, 101, 114]⟩), .agg #[.int .u8 k, .int .u8 t0, .string s0, .int .u8 t1, .string s1, .int .u8 t2, .string s2, .int .u8 t3, .string s3, .int .u8 ct, .bool cb, .int .u8 bt, .bool bb], .bool d] w fun e w' => e = .returned (.bool true) ∧ Below w.heap.size w w' := by
  go_enter Ybaf.func8, Ybaf.ntmps8
  go_wp2
  go_ret
  exact ⟨rfl, (Below.refl _ w).alloc (Nat.le_refl _) _⟩

theorem check_c (m : Mem) (b : Nat) (d : Bool) (w : World) (hm : m.isMap → MapIs w b (m.f6 d d) (m.c6 d d)) :
    Calls Ybaf.prog 8 #[m.val b, .agg m.cells, .bool d] w fun e w' => e = .returned (.bool true) ∧ Below w.heap.size w w' := by
  obtain ⟨k, t0, s0, t1, s1, t2, s2, t3, s3, ct, cb, bt, bb⟩ := m
  by_cases h2 : k.tmod 4 = 2
  · have e1 : Mem.val ⟨k, t0, s0, t1, s1, t2, s2, t3, s3, ct, cb, bt, bb⟩ b = .nilIface := by simp [Mem.val, h2]
    rw [e1]
    exact check_2 k t0 t1 t2 t3 ct bt s0 s1 s2 s3 cb bb d w h2
  by_cases h3 : k.tmod 4 = 3
  · have e1 : Mem.val ⟨k, t0, s0, t1, s1, t2, s2, t3, s3, ct, cb, bt, bb⟩ b = .iface 9 (.string ⟨#[109, 101, 109, 98, 101, 114]⟩) := by simp [Mem.val, h3]
    rw [e1]
    exact check_3 k t0 t1 t2 t3 ct bt s0 s1 s2 s3 cb bb d w h3
  have e1 : Mem.val ⟨k, t0, s0, t1, s1, t2, s2, t3, s3, ct, cb, bt, bb⟩ b = .iface 23 (.map (some b)) := by simp [Mem.val, h2, h3]
  rw [e1]
  exact check_m k t0 t1 t2 t3 ct bt s0 s1 s2 s3 cb bb b d w h2 h3 (hm ⟨h2, h3⟩)

end Go.Proofs.YbulkegvaFmt
