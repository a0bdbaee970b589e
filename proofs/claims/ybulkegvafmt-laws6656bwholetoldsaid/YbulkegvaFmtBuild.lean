/-
  DERIVED. zzs6656bbuild.
-/
import Derived.Test.YbulkegvaFmtData
import Derived.Laws.Rows
import Derived.Deep.RegionWith
import Derived.BigRegion
set_option linter.unusedVariables false
namespace Go.Proofs.YbulkegvaFmt
open Go.RowKit Go.Extern.Stop Go.Stop Go.Extern Go.Maps
attribute [local go_sem] Ybaf.call13 Ybaf.guard Ybaf.fmt0 Ybaf.fmt0r Ybaf.fmt1 Ybaf.fmt1r Ybaf.fmt2 Ybaf.fmt2r Ybaf.fmt3 Ybaf.fmt3r Ybaf.fmt4 Ybaf.fmt4r
attribute [local go_sem] Ybaf.act3_100 Ybaf.op3_100 Ybaf.str3 Ybaf.act9_115 Ybaf.op9_115 Ybaf.str9 Ybaf.asNil_9 Ybaf.as9_9 Ybaf.as4_9 Ybaf.as23_9 Ybaf.as24_9 Ybaf.as72_9
attribute [local go_sem] Ybaf.asNil_4 Ybaf.as9_4 Ybaf.as4_4 Ybaf.as23_4 Ybaf.as24_4 Ybaf.as72_4 Ybaf.asNil_23 Ybaf.as9_23 Ybaf.as4_23 Ybaf.as23_23 Ybaf.as24_23 Ybaf.as72_23
attribute [local go_sem] Ybaf.asNil_24 Ybaf.as9_24 Ybaf.as4_24 Ybaf.as23_24 Ybaf.as24_24 Ybaf.as72_24 Ybaf.as37_37 Ybaf.isIface20 Ybaf.isIface33

theorem cell_at {w : World} {b i : Nat} {cs : Array Value} {t : TypeId} {v : Value} (h : w.heap[b]? = some (.cells cs t (0, 0))) (hv : cs[i]? = some v) : w.cell? ⟨b, i, none⟩ = some v :=
  (cell_of_row w b i cs t (0, 0) h).trans hv

structure BI (m : Mem) (w W : World) (bx kb b : Nat) (f : ByteArray → Option Value) (n : Nat) : Prop where
  bx : W.heap[bx]? = some (.cells m.cells 30 (0, 0))
  kb : W.heap[kb]? = some (.cells #[.string K0, .string K1, .string K2, .string K3] 53 (0, 0))
  mp : MapIs W b f n
  bel : Below w.heap.size w W
  le : w.heap.size ≤ b

theorem BI.turned {m : Mem} {w W W' : World} {bx kb b : Nat} {f f' : ByteArray → Option Value} {n n' : Nat} (h : BI m w W bx kb b f n) (t : W.mapTurned W' b) (h' : MapIs W' b f' n') : BI m w W' bx kb b f' n' := by
  obtain ⟨es, clk, hm⟩ := h.mp.isMap
  have hx : bx ≠ b := fun e => by have := h.bx; rw [e, hm] at this; cases this
  have hk : kb ≠ b := fun e => by have := h.kb; rw [e, hm] at this; cases this
  have lx : bx < W.heap.size := (Array.getElem?_eq_some_iff.1 h.bx).1
  have lk : kb < W.heap.size := (Array.getElem?_eq_some_iff.1 h.kb).1
  exact ⟨(t.grown.block bx lx (by simpa using hx)).trans h.bx, (t.grown.block kb lk (by simpa using hk)).trans h.kb, h', h.bel.grown t.grown h.bel.size (fun k e => by cases e; exact h.le), h.le⟩

theorem BI.drew {m : Mem} {w W : World} {bx kb b : Nat} {f : ByteArray → Option Value} {n : Nat} (h : BI m w W bx kb b f n) : BI m w W.drew bx kb b f n :=
  ⟨h.bx, h.kb, h.mp.same rfl, h.bel.drew, h.le⟩

def Mem.fN (m : Mem) : Nat → ByteArray → Option Value | 0 => Mem.f0 | 1 => m.f1 | 2 => m.f2 | 3 => m.f3 | _ => m.f4
def Mem.cN (m : Mem) : Nat → Nat | 0 => 0 | 1 => m.c1 | 2 => m.c2 | 3 => m.c3 | _ => m.c4

theorem Mem.cN_lt (m : Mem) : ∀ j, m.cN j < 100 := by
  have h := m.c4_le
  intro j
  have h4 : m.c4 = m.c3 + cn (sent m.t3 m.s3) := rfl
  have h3 : m.c3 = m.c2 + cn (sent m.t2 m.s2) := rfl
  have h2 : m.c2 = m.c1 + cn (sent m.t1 m.s1) := rfl
  unfold Mem.cN
  split <;> omega

theorem skip0 {m : Mem} {W : World} {b : Nat} (h : MapIs W b (m.fN 0) (m.cN 0)) (ht : m.t0.tmod 4 = 0) : MapIs W b (m.fN 1) (m.cN 1) :=
  MapIs.skip (k := K0) (e := sent m.t0 m.s0) h (by simp [sent, ht]) rfl
theorem skip1 {m : Mem} {W : World} {b : Nat} (h : MapIs W b (m.fN 1) (m.cN 1)) (ht : m.t1.tmod 4 = 0) : MapIs W b (m.fN 2) (m.cN 2) :=
  MapIs.skip (k := K1) (e := sent m.t1 m.s1) h (by simp [sent, ht]) m.n1
theorem skip2 {m : Mem} {W : World} {b : Nat} (h : MapIs W b (m.fN 2) (m.cN 2)) (ht : m.t2.tmod 4 = 0) : MapIs W b (m.fN 3) (m.cN 3) :=
  MapIs.skip (k := K2) (e := sent m.t2 m.s2) h (by simp [sent, ht]) m.n2
theorem skip3 {m : Mem} {W : World} {b : Nat} (h : MapIs W b (m.fN 3) (m.cN 3)) (ht : m.t3.tmod 4 = 0) : MapIs W b (m.fN 4) (m.cN 4) :=
  MapIs.skip (k := K3) (e := sent m.t3 m.s3) h (by simp [sent, ht]) m.n3
theorem laid0 {m : Mem} {W : World} {b : Nat} (ht : ¬ m.t0.tmod 4 = 0) (h : MapIs W b (fun x => if x = K0 then some (sval (m.t0.tmod 4) m.s0) else m.fN 0 x) (m.cN 0 + 1)) : MapIs W b (m.fN 1) (m.cN 1) :=
  MapIs.laid (w := W) (k := K0) (e := sent m.t0 m.s0) (v := sval (m.t0.tmod 4) m.s0) (by simp [sent, ht]) h
theorem laid1 {m : Mem} {W : World} {b : Nat} (ht : ¬ m.t1.tmod 4 = 0) (h : MapIs W b (fun x => if x = K1 then some (sval (m.t1.tmod 4) m.s1) else m.fN 1 x) (m.cN 1 + 1)) : MapIs W b (m.fN 2) (m.cN 2) :=
  MapIs.laid (w := W) (k := K1) (e := sent m.t1 m.s1) (v := sval (m.t1.tmod 4) m.s1) (by simp [sent, ht]) h
theorem laid2 {m : Mem} {W : World} {b : Nat} (ht : ¬ m.t2.tmod 4 = 0) (h : MapIs W b (fun x => if x = K2 then some (sval (m.t2.tmod 4) m.s2) else m.fN 2 x) (m.cN 2 + 1)) : MapIs W b (m.fN 3) (m.cN 3) :=
  MapIs.laid (w := W) (k := K2) (e := sent m.t2 m.s2) (v := sval (m.t2.tmod 4) m.s2) (by simp [sent, ht]) h
theorem laid3 {m : Mem} {W : World} {b : Nat} (ht : ¬ m.t3.tmod 4 = 0) (h : MapIs W b (fun x => if x = K3 then some (sval (m.t3.tmod 4) m.s3) else m.fN 3 x) (m.cN 3 + 1)) : MapIs W b (m.fN 4) (m.cN 4) :=
  MapIs.laid (w := W) (k := K3) (e := sent m.t3 m.s3) (v := sval (m.t3.tmod 4) m.s3) (by simp [sent, ht]) h
theorem skipC {m : Mem} {W : World} {b : Nat} (h : MapIs W b (m.fN 4) (m.cN 4)) (ht : m.ct.tmod 4 = 0) : MapIs W b (m.f5 false) (m.c5 false) :=
  MapIs.skip (k := KC) (e := bent false m.ct m.cb) h (by simp [bent, ht]) m.n4
theorem skipB {m : Mem} {W : World} {b : Nat} (h : MapIs W b (m.f5 false) (m.c5 false)) (ht : m.bt.tmod 4 = 0) : MapIs W b (m.f6 false false) (m.c6 false false) :=
  MapIs.skip (k := KB) (e := bent false m.bt m.bb) h (by simp [bent, ht]) (m.n5 false)
theorem laidC {m : Mem} {W : World} {b : Nat} (ht : ¬ m.ct.tmod 4 = 0) (h : MapIs W b (fun x => if x = KC then some (bval (m.ct.tmod 4) m.cb) else m.fN 4 x) (m.cN 4 + 1)) : MapIs W b (m.f5 false) (m.c5 false) :=
  MapIs.laid (w := W) (k := KC) (e := bent false m.ct m.cb) (v := bval (m.ct.tmod 4) m.cb) (by simp [bent, ht]) h
theorem laidB {m : Mem} {W : World} {b : Nat} (ht : ¬ m.bt.tmod 4 = 0) (h : MapIs W b (fun x => if x = KB then some (bval (m.bt.tmod 4) m.bb) else m.f5 false x) (m.c5 false + 1)) : MapIs W b (m.f6 false false) (m.c6 false false) :=
  MapIs.laid (w := W) (k := KB) (e := bent false m.bt m.bb) (v := bval (m.bt.tmod 4) m.bb) (by simp [bent, ht]) h
theorem c5_lt (m : Mem) : m.c5 false < 100 := by
  have h := m.c6_le false false
  unfold Mem.c6 at h
  omega

theorem start_BI (m : Mem) (w w1 : World) (hb : Below (w.alloc (.cells m.cells 30)).heap.size (w.alloc (.cells m.cells 30)) w1) :
    BI m w ((w1.alloc (.cells #[.string K0, .string K1, .string K2, .string K3] 53)).alloc (.map #[] 0)) w.heap.size w1.heap.size (w1.heap.size + 1) (m.fN 0) (m.cN 0) := by
  have hs : w.heap.size + 1 ≤ w1.heap.size := by simpa using hb.size
  have e1 : (w1.alloc (.cells #[.string K0, .string K1, .string K2, .string K3] 53)).heap.size = w1.heap.size + 1 := by simp
  refine ⟨?_, ?_, ?_, ?_, by omega⟩
  · rw [Below.heap_alloc _ _ _ (by simp; omega), Below.heap_alloc _ _ _ (by omega), hb.block _ (by simp)]
    exact heap_alloc_new _ _
  · rw [Below.heap_alloc _ _ _ (by simp)]
    exact heap_alloc_new _ _
  · have := MapIs.made (w1.alloc (.cells #[.string K0, .string K1, .string K2, .string K3] 53))
    rw [e1] at this
    exact this
  · exact ((((Below.refl _ w).alloc (Nat.le_refl _) _).trans (hb.mono (by simp))).alloc (by omega) _).alloc (by rw [e1]; omega) _


def Mem.isMap (m : Mem) : Prop := ¬ m.k.tmod 4 = 2 ∧ ¬ m.k.tmod 4 = 3


set_option maxHeartbeats 1600000 in
theorem build_2 (k t0 t1 t2 t3 ct bt : Int) (s0 s1 s2 s3 : ByteArray) (cb bb : Bool) (w : World) (h2 : k.tmod 4 = 2) :
    Calls Ybaf.prog 4 #[.agg #[.int .u8 k, .int .u8 t0, .string s0, .int .u8 t1, .string s1, .int .u8 t2, .string s2, .int .u8 t3, .string s3, .int .u8 ct, .bool cb, .int .u8 bt, .bool bb]] w fun e w' => e = .returned .nilIface ∧ w' = w.alloc (.cells (Mem.cells ⟨k, t0, s0, t1, s1, t2, s2, t3, s3, ct, cb, bt, bb⟩) 30) := by
  go_enter Ybaf.func4, Ybaf.ntmps4
  go_wp2
  go_ret
  exact ⟨rfl, rfl⟩

set_option maxHeartbeats 1600000 in
theorem build_3 (k t0 t1 t2 t3 ct bt : Int) (s0 s1 s2 s3 : ByteArray) (cb bb : Bool) (w : World) (h3 : k.tmod 4 = 3) :
    Calls Ybaf.prog 4 #[.agg #[.int .u8 k, .int .u8 t0, .string s0, .int .u8 t1, .string s1, .int .u8 t2, .string s2, .int .u8 t3, .string s3, .int .u8 ct, .bool cb, .int .u8 bt, .bool bb]] w fun e w' => e = .returned (.iface 9 (.string ⟨#[109, 101, 109, 98, 101, 114]⟩)) ∧ w' = w.alloc (.cells (Mem.cells ⟨k, t0, s0, t1, s1, t2, s2, t3, s3, ct, cb, bt, bb⟩) 30) := by
  go_enter Ybaf.func4, Ybaf.ntmps4
  go_wp2
  go_ret
  exact ⟨rfl, rfl⟩

set_option maxHeartbeats 2400000 in
theorem build_m (k t0 t1 t2 t3 ct bt : Int) (s0 s1 s2 s3 : ByteArray) (cb bb : Bool) (w : World) (h2 : ¬ k.tmod 4 = 2) (h3 : ¬ k.tmod 4 = 3) :
    Calls Ybaf.prog 4 #[.agg #[.int .u8 k, .int .u8 t0, .string s0, .int .u8 t1, .string s1, .int .u8 t2, .string s2, .int .u8 t3, .string s3, .int .u8 ct, .bool cb, .int .u8 bt, .bool bb]] w fun e w' => ∃ b, e = .returned (.iface 23 (.map (some b))) ∧ w.heap.size ≤ b ∧ MapIs w' b (Mem.f6 ⟨k, t0, s0, t1, s1, t2, s2, t3, s3, ct, cb, bt, bb⟩ false false) (Mem.c6 ⟨k, t0, s0, t1, s1, t2, s2, t3, s3, ct, cb, bt, bb⟩ false false) ∧ Below w.heap.size w w' := by
  have hmm := @run_makeMap Ybaf.prog
  go_enter Ybaf.func4, Ybaf.ntmps4
  go_wp2_with fail
  refine (keys_c _).mono ?_
  rintro e w1 ⟨rfl, hb1⟩
  have HB := hid (start_BI ⟨k, t0, s0, t1, s1, t2, s2, t3, s3, ct, cb, bt, bb⟩ w w1 hb1)
  have HS : Hid (w.heap.size + 1 ≤ w1.heap.size) := (show w.heap.size + 1 ≤ w1.heap.size by have := hb1.size; simpa using this)
  clear hb1
  go_wp2
  go_loopw [5] (fun i wr => ∃ j : Nat, j ≤ 4 ∧ i = .int .i64 j ∧ BI ⟨k, t0, s0, t1, s1, t2, s2, t3, s3, ct, cb, bt, bb⟩ w wr w.heap.size w1.heap.size (w1.heap.size + 1) (Mem.fN ⟨k, t0, s0, t1, s1, t2, s2, t3, s3, ct, cb, bt, bb⟩ j) (Mem.cN ⟨k, t0, s0, t1, s1, t2, s2, t3, s3, ct, cb, bt, bb⟩ j)) (fun i _ => 4 - (intOf i).toNat)
  case atStart => exact ⟨0, by omega, rfl, HB.out⟩
  case round =>
    obtain ⟨j, hj, rfl, hI⟩ := hrel
    have hj' : j = 0 ∨ j = 1 ∨ j = 2 ∨ j = 3 ∨ j = 4 := by omega
    rcases hj' with rfl | rfl | rfl | rfl | rfl

    · -- round 0
      by_cases ht : t0.tmod 4 = 0
      · have d1 : wr.cell? ⟨w.heap.size, 1, none⟩ = some (.int .u8 t0) := cell_at hI.bx rfl
        have HN : Hid (BI ⟨k, t0, s0, t1, s1, t2, s2, t3, s3, ct, cb, bt, bb⟩ w wr w.heap.size w1.heap.size (w1.heap.size + 1) (Mem.fN ⟨k, t0, s0, t1, s1, t2, s2, t3, s3, ct, cb, bt, bb⟩ 1) (Mem.cN ⟨k, t0, s0, t1, s1, t2, s2, t3, s3, ct, cb, bt, bb⟩ 1)) := ⟨hI.bx, hI.kb, skip0 hI.mp ht, hI.bel, hI.le⟩
        clear hI
        go_wp2
        go_roundw
        case rel => exact ⟨1, by omega, by go_num, HN.out⟩
        case measure => simp [intOf]
      · have d1 : wr.cell? ⟨w.heap.size, 1, none⟩ = some (.int .u8 t0) := cell_at hI.bx rfl
        have d2 : wr.cell? ⟨w.heap.size, 2, none⟩ = some (.string s0) := cell_at hI.bx rfl
        have d3 : wr.cell? ⟨w1.heap.size, 0, none⟩ = some (.string ⟨#[97, 112, 105, 86, 101, 114, 115, 105, 111, 110]⟩) := cell_at hI.kb rfl
        obtain ⟨wn, hrun, hm1, htn⟩ := (hI.drew.mp).store sK0 (Mem.cN_lt ⟨k, t0, s0, t1, s1, t2, s2, t3, s3, ct, cb, bt, bb⟩ 0) rfl (sval (t0.tmod 4) s0)
        have hrun' : (Instr.mapUpdate 23 (.map (some (w1.heap.size + 1))) (.string ⟨#[97, 112, 105, 86, 101, 114, 115, 105, 111, 110]⟩) (sval (t0.tmod 4) s0)).run Ybaf.prog wr.drew = .ok () wn := hrun
        have HN : Hid (BI ⟨k, t0, s0, t1, s1, t2, s2, t3, s3, ct, cb, bt, bb⟩ w wn w.heap.size w1.heap.size (w1.heap.size + 1) (Mem.fN ⟨k, t0, s0, t1, s1, t2, s2, t3, s3, ct, cb, bt, bb⟩ 1) (Mem.cN ⟨k, t0, s0, t1, s1, t2, s2, t3, s3, ct, cb, bt, bb⟩ 1)) := hI.drew.turned htn (laid0 ht hm1)
        clear hI hrun hm1 htn
        go_wp2
        go_region_with (first | (go_at_call 10; refine (sval_c _ _ _).mono ?_; rintro e w' ⟨rfl, rfl⟩))
        all_goals (
          go_wp2
          go_roundw
          case rel => exact ⟨1, by omega, by go_num, HN.out⟩
          case measure => simp [intOf])

    · -- round 1
      by_cases ht : t1.tmod 4 = 0
      · have d1 : wr.cell? ⟨w.heap.size, 3, none⟩ = some (.int .u8 t1) := cell_at hI.bx rfl
        have HN : Hid (BI ⟨k, t0, s0, t1, s1, t2, s2, t3, s3, ct, cb, bt, bb⟩ w wr w.heap.size w1.heap.size (w1.heap.size + 1) (Mem.fN ⟨k, t0, s0, t1, s1, t2, s2, t3, s3, ct, cb, bt, bb⟩ 2) (Mem.cN ⟨k, t0, s0, t1, s1, t2, s2, t3, s3, ct, cb, bt, bb⟩ 2)) := ⟨hI.bx, hI.kb, skip1 hI.mp ht, hI.bel, hI.le⟩
        clear hI
        go_wp2
        go_roundw
        case rel => exact ⟨2, by omega, by go_num, HN.out⟩
        case measure => simp [intOf]
      · have d1 : wr.cell? ⟨w.heap.size, 3, none⟩ = some (.int .u8 t1) := cell_at hI.bx rfl
        have d2 : wr.cell? ⟨w.heap.size, 4, none⟩ = some (.string s1) := cell_at hI.bx rfl
        have d3 : wr.cell? ⟨w1.heap.size, 1, none⟩ = some (.string ⟨#[107, 105, 110, 100]⟩) := cell_at hI.kb rfl
        obtain ⟨wn, hrun, hm1, htn⟩ := (hI.drew.mp).store sK1 (Mem.cN_lt ⟨k, t0, s0, t1, s1, t2, s2, t3, s3, ct, cb, bt, bb⟩ 1) (Mem.n1 ⟨k, t0, s0, t1, s1, t2, s2, t3, s3, ct, cb, bt, bb⟩) (sval (t1.tmod 4) s1)
        have hrun' : (Instr.mapUpdate 23 (.map (some (w1.heap.size + 1))) (.string ⟨#[107, 105, 110, 100]⟩) (sval (t1.tmod 4) s1)).run Ybaf.prog wr.drew = .ok () wn := hrun
        have HN : Hid (BI ⟨k, t0, s0, t1, s1, t2, s2, t3, s3, ct, cb, bt, bb⟩ w wn w.heap.size w1.heap.size (w1.heap.size + 1) (Mem.fN ⟨k, t0, s0, t1, s1, t2, s2, t3, s3, ct, cb, bt, bb⟩ 2) (Mem.cN ⟨k, t0, s0, t1, s1, t2, s2, t3, s3, ct, cb, bt, bb⟩ 2)) := hI.drew.turned htn (laid1 ht hm1)
        clear hI hrun hm1 htn
        go_wp2
        go_region_with (first | (go_at_call 10; refine (sval_c _ _ _).mono ?_; rintro e w' ⟨rfl, rfl⟩))
        all_goals (
          go_wp2
          go_roundw
          case rel => exact ⟨2, by omega, by go_num, HN.out⟩
          case measure => simp [intOf])

    · -- round 2
      by_cases ht : t2.tmod 4 = 0
      · have d1 : wr.cell? ⟨w.heap.size, 5, none⟩ = some (.int .u8 t2) := cell_at hI.bx rfl
        have HN : Hid (BI ⟨k, t0, s0, t1, s1, t2, s2, t3, s3, ct, cb, bt, bb⟩ w wr w.heap.size w1.heap.size (w1.heap.size + 1) (Mem.fN ⟨k, t0, s0, t1, s1, t2, s2, t3, s3, ct, cb, bt, bb⟩ 3) (Mem.cN ⟨k, t0, s0, t1, s1, t2, s2, t3, s3, ct, cb, bt, bb⟩ 3)) := ⟨hI.bx, hI.kb, skip2 hI.mp ht, hI.bel, hI.le⟩
        clear hI
        go_wp2
        go_roundw
        case rel => exact ⟨3, by omega, by go_num, HN.out⟩
        case measure => simp [intOf]
      · have d1 : wr.cell? ⟨w.heap.size, 5, none⟩ = some (.int .u8 t2) := cell_at hI.bx rfl
        have d2 : wr.cell? ⟨w.heap.size, 6, none⟩ = some (.string s2) := cell_at hI.bx rfl
        have d3 : wr.cell? ⟨w1.heap.size, 2, none⟩ = some (.string ⟨#[110, 97, 109, 101]⟩) := cell_at hI.kb rfl
        obtain ⟨wn, hrun, hm1, htn⟩ := (hI.drew.mp).store sK2 (Mem.cN_lt ⟨k, t0, s0, t1, s1, t2, s2, t3, s3, ct, cb, bt, bb⟩ 2) (Mem.n2 ⟨k, t0, s0, t1, s1, t2, s2, t3, s3, ct, cb, bt, bb⟩) (sval (t2.tmod 4) s2)
        have hrun' : (Instr.mapUpdate 23 (.map (some (w1.heap.size + 1))) (.string ⟨#[110, 97, 109, 101]⟩) (sval (t2.tmod 4) s2)).run Ybaf.prog wr.drew = .ok () wn := hrun
        have HN : Hid (BI ⟨k, t0, s0, t1, s1, t2, s2, t3, s3, ct, cb, bt, bb⟩ w wn w.heap.size w1.heap.size (w1.heap.size + 1) (Mem.fN ⟨k, t0, s0, t1, s1, t2, s2, t3, s3, ct, cb, bt, bb⟩ 3) (Mem.cN ⟨k, t0, s0, t1, s1, t2, s2, t3, s3, ct, cb, bt, bb⟩ 3)) := hI.drew.turned htn (laid2 ht hm1)
        clear hI hrun hm1 htn
        go_wp2
        go_region_with (first | (go_at_call 10; refine (sval_c _ _ _).mono ?_; rintro e w' ⟨rfl, rfl⟩))
        all_goals (
          go_wp2
          go_roundw
          case rel => exact ⟨3, by omega, by go_num, HN.out⟩
          case measure => simp [intOf])

    · -- round 3
      by_cases ht : t3.tmod 4 = 0
      · have d1 : wr.cell? ⟨w.heap.size, 7, none⟩ = some (.int .u8 t3) := cell_at hI.bx rfl
        have HN : Hid (BI ⟨k, t0, s0, t1, s1, t2, s2, t3, s3, ct, cb, bt, bb⟩ w wr w.heap.size w1.heap.size (w1.heap.size + 1) (Mem.fN ⟨k, t0, s0, t1, s1, t2, s2, t3, s3, ct, cb, bt, bb⟩ 4) (Mem.cN ⟨k, t0, s0, t1, s1, t2, s2, t3, s3, ct, cb, bt, bb⟩ 4)) := ⟨hI.bx, hI.kb, skip3 hI.mp ht, hI.bel, hI.le⟩
        clear hI
        go_wp2
        go_roundw
        case rel => exact ⟨4, by omega, by go_num, HN.out⟩
        case measure => simp [intOf]
      · have d1 : wr.cell? ⟨w.heap.size, 7, none⟩ = some (.int .u8 t3) := cell_at hI.bx rfl
        have d2 : wr.cell? ⟨w.heap.size, 8, none⟩ = some (.string s3) := cell_at hI.bx rfl
        have d3 : wr.cell? ⟨w1.heap.size, 3, none⟩ = some (.string ⟨#[117, 105, 100]⟩) := cell_at hI.kb rfl
        obtain ⟨wn, hrun, hm1, htn⟩ := (hI.drew.mp).store sK3 (Mem.cN_lt ⟨k, t0, s0, t1, s1, t2, s2, t3, s3, ct, cb, bt, bb⟩ 3) (Mem.n3 ⟨k, t0, s0, t1, s1, t2, s2, t3, s3, ct, cb, bt, bb⟩) (sval (t3.tmod 4) s3)
        have hrun' : (Instr.mapUpdate 23 (.map (some (w1.heap.size + 1))) (.string ⟨#[117, 105, 100]⟩) (sval (t3.tmod 4) s3)).run Ybaf.prog wr.drew = .ok () wn := hrun
        have HN : Hid (BI ⟨k, t0, s0, t1, s1, t2, s2, t3, s3, ct, cb, bt, bb⟩ w wn w.heap.size w1.heap.size (w1.heap.size + 1) (Mem.fN ⟨k, t0, s0, t1, s1, t2, s2, t3, s3, ct, cb, bt, bb⟩ 4) (Mem.cN ⟨k, t0, s0, t1, s1, t2, s2, t3, s3, ct, cb, bt, bb⟩ 4)) := hI.drew.turned htn (laid3 ht hm1)
        clear hI hrun hm1 htn
        go_wp2
        go_region_with (first | (go_at_call 10; refine (sval_c _ _ _).mono ?_; rintro e w' ⟨rfl, rfl⟩))
        all_goals (
          go_wp2
          go_roundw
          case rel => exact ⟨4, by omega, by go_num, HN.out⟩
          case measure => simp [intOf])

    · -- behind the loop
      have d9 : wr.cell? ⟨w.heap.size, 9, none⟩ = some (.int .u8 ct) := cell_at hI.bx rfl
      have d10 : wr.cell? ⟨w.heap.size, 10, none⟩ = some (.bool cb) := cell_at hI.bx rfl
      have d11 : wr.cell? ⟨w.heap.size, 11, none⟩ = some (.int .u8 bt) := cell_at hI.bx rfl
      have d12 : wr.cell? ⟨w.heap.size, 12, none⟩ = some (.bool bb) := cell_at hI.bx rfl
      have HI := hid hI
      clear hI HB
      by_cases gc : ct.tmod 4 = 0
      · have H5 : Hid (BI ⟨k, t0, s0, t1, s1, t2, s2, t3, s3, ct, cb, bt, bb⟩ w wr w.heap.size w1.heap.size (w1.heap.size + 1) (Mem.f5 ⟨k, t0, s0, t1, s1, t2, s2, t3, s3, ct, cb, bt, bb⟩ false) (Mem.c5 ⟨k, t0, s0, t1, s1, t2, s2, t3, s3, ct, cb, bt, bb⟩ false)) := ⟨HI.out.bx, HI.out.kb, skipC HI.out.mp gc, HI.out.bel, HI.out.le⟩
        by_cases gb : bt.tmod 4 = 0
        · go_wp2
          go_ret
          exact ⟨_, rfl, HI.out.le, skipB H5.out.mp gb, HI.out.bel⟩
        · go_wp2_with (first | (go_at_call 11; refine (bval_c _ _ _).mono ?_; rintro e w' ⟨rfl, rfl⟩) | (at_mapUpdate; refine wpList_upd _ rfl _ _ _ rfl (w1.heap.size + 1) _ _ KB _ rfl H5.out.mp rfl rfl sKB (c5_lt ⟨k, t0, s0, t1, s1, t2, s2, t3, s3, ct, cb, bt, bb⟩) (Mem.n5 ⟨k, t0, s0, t1, s1, t2, s2, t3, s3, ct, cb, bt, bb⟩ false) ?_; intro w3 h3' t3'; have H3 := hid (H5.out.turned t3' (f' := Mem.f6 ⟨k, t0, s0, t1, s1, t2, s2, t3, s3, ct, cb, bt, bb⟩ false false) (n' := Mem.c6 ⟨k, t0, s0, t1, s1, t2, s2, t3, s3, ct, cb, bt, bb⟩ false false) (laidB gb h3')); clear h3' t3') | go_in)
          go_ret
          exact ⟨_, rfl, HI.out.le, H3.out.mp, H3.out.bel⟩
      · by_cases gb : bt.tmod 4 = 0
        · go_wp2_with (first | (go_at_call 11; refine (bval_c _ _ _).mono ?_; rintro e w' ⟨rfl, rfl⟩) | (at_mapUpdate; refine wpList_upd _ rfl _ _ _ rfl (w1.heap.size + 1) _ _ KC _ rfl HI.out.mp rfl rfl sKC (Mem.cN_lt ⟨k, t0, s0, t1, s1, t2, s2, t3, s3, ct, cb, bt, bb⟩ 4) (Mem.n4 ⟨k, t0, s0, t1, s1, t2, s2, t3, s3, ct, cb, bt, bb⟩) ?_; intro w2 h2' tu2; have I2 := HI.out.turned tu2 (f' := Mem.f5 ⟨k, t0, s0, t1, s1, t2, s2, t3, s3, ct, cb, bt, bb⟩ false) (n' := Mem.c5 ⟨k, t0, s0, t1, s1, t2, s2, t3, s3, ct, cb, bt, bb⟩ false) (laidC gc h2'); have d11' : w2.cell? ⟨w.heap.size, 11, none⟩ = some (.int .u8 bt) := cell_at I2.bx rfl; have d12' : w2.cell? ⟨w.heap.size, 12, none⟩ = some (.bool bb) := cell_at I2.bx rfl; have H2 := hid I2; clear I2 h2' tu2) | go_in)
          go_ret
          exact ⟨_, rfl, HI.out.le, skipB H2.out.mp gb, H2.out.bel⟩
        · go_wp2_with (first | (go_at_call 11; refine (bval_c _ _ _).mono ?_; rintro e w' ⟨rfl, rfl⟩) | (at_mapUpdate; refine wpList_upd _ rfl _ _ _ rfl (w1.heap.size + 1) _ _ KC _ rfl HI.out.mp rfl rfl sKC (Mem.cN_lt ⟨k, t0, s0, t1, s1, t2, s2, t3, s3, ct, cb, bt, bb⟩ 4) (Mem.n4 ⟨k, t0, s0, t1, s1, t2, s2, t3, s3, ct, cb, bt, bb⟩) ?_; intro w2 h2' tu2; have I2 := HI.out.turned tu2 (f' := Mem.f5 ⟨k, t0, s0, t1, s1, t2, s2, t3, s3, ct, cb, bt, bb⟩ false) (n' := Mem.c5 ⟨k, t0, s0, t1, s1, t2, s2, t3, s3, ct, cb, bt, bb⟩ false) (laidC gc h2'); have d11' : w2.cell? ⟨w.heap.size, 11, none⟩ = some (.int .u8 bt) := cell_at I2.bx rfl; have d12' : w2.cell? ⟨w.heap.size, 12, none⟩ = some (.bool bb) := cell_at I2.bx rfl; have H2 := hid I2; clear I2 h2' tu2) | (at_mapUpdate; refine wpList_upd _ rfl _ _ _ rfl (w1.heap.size + 1) _ _ KB _ rfl H2.out.mp rfl rfl sKB (c5_lt ⟨k, t0, s0, t1, s1, t2, s2, t3, s3, ct, cb, bt, bb⟩) (Mem.n5 ⟨k, t0, s0, t1, s1, t2, s2, t3, s3, ct, cb, bt, bb⟩ false) ?_; intro w3 h3' t3'; have H3 := hid (H2.out.turned t3' (f' := Mem.f6 ⟨k, t0, s0, t1, s1, t2, s2, t3, s3, ct, cb, bt, bb⟩ false false) (n' := Mem.c6 ⟨k, t0, s0, t1, s1, t2, s2, t3, s3, ct, cb, bt, bb⟩ false false) (laidB gb h3')); clear h3' t3') | go_in)
          go_ret
          exact ⟨_, rfl, HI.out.le, H3.out.mp, H3.out.bel⟩


/-- What a member is built into. -/
def Mem.val (m : Mem) (b : Nat) : Value := if m.k.tmod 4 = 2 then .nilIface else if m.k.tmod 4 = 3 then .iface 9 (.string ⟨#[109, 101, 109, 98, 101, 114]⟩) else .iface 23 (.map (some b))

theorem build_c (m : Mem) (w : World) : Calls Ybaf.prog 4 #[.agg m.cells] w fun e w' => ∃ b, e = .returned (m.val b) ∧ w.heap.size ≤ b ∧ b < w'.heap.size ∧ (m.isMap → MapIs w' b (m.f6 false false) (m.c6 false false)) ∧ Below w.heap.size w w' := by
  obtain ⟨k, t0, s0, t1, s1, t2, s2, t3, s3, ct, cb, bt, bb⟩ := m
  by_cases h2 : k.tmod 4 = 2
  · refine (build_2 k t0 t1 t2 t3 ct bt s0 s1 s2 s3 cb bb w h2).mono ?_
    rintro e w' ⟨rfl, rfl⟩
    exact ⟨w.heap.size, by simp [Mem.val, h2], Nat.le_refl _, by simp, fun h => absurd h2 h.1, (Below.refl _ w).alloc (Nat.le_refl _) _⟩
  by_cases h3 : k.tmod 4 = 3
  · refine (build_3 k t0 t1 t2 t3 ct bt s0 s1 s2 s3 cb bb w h3).mono ?_
    rintro e w' ⟨rfl, rfl⟩
    exact ⟨w.heap.size, by simp [Mem.val, h3], Nat.le_refl _, by simp, fun h => absurd h3 h.2, (Below.refl _ w).alloc (Nat.le_refl _) _⟩
  refine (build_m k t0 t1 t2 t3 ct bt s0 s1 s2 s3 cb bb w h2 h3).mono ?_
  rintro e w' ⟨b, rfl, hb, hm, hbel⟩
  exact ⟨b, by simp [Mem.val, h2, h3], hb, hm.lt, fun _ => hm, hbel⟩

end Go.Proofs.YbulkegvaFmt
