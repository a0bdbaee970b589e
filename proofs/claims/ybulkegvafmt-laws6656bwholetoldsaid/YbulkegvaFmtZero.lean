/-
  DERIVED. The law at an array of no member, whatever the slice's address.
-/
import Derived.Test.YbulkegvaFmtLawC
set_option linter.unusedVariables false
namespace Go.Proofs.YbulkegvaFmt
open Go.RowKit Go.Extern.Stop Go.Stop Go.Extern Go.Maps
attribute [local go_sem] Ybaf.call13 Ybaf.guard Ybaf.fmt0 Ybaf.fmt0r Ybaf.fmt1 Ybaf.fmt1r Ybaf.fmt2 Ybaf.fmt2r Ybaf.fmt3 Ybaf.fmt3r Ybaf.fmt4 Ybaf.fmt4r
attribute [local go_sem] Ybaf.act3_100 Ybaf.op3_100 Ybaf.str3 Ybaf.act9_115 Ybaf.op9_115 Ybaf.str9 Ybaf.asNil_9 Ybaf.as9_9 Ybaf.as4_9 Ybaf.as23_9 Ybaf.as24_9 Ybaf.as72_9
attribute [local go_sem] Ybaf.asNil_4 Ybaf.as9_4 Ybaf.as4_4 Ybaf.as23_4 Ybaf.as24_4 Ybaf.as72_4 Ybaf.asNil_23 Ybaf.as9_23 Ybaf.as4_23 Ybaf.as23_23 Ybaf.as24_23 Ybaf.as72_23
attribute [local go_sem] Ybaf.asNil_24 Ybaf.as9_24 Ybaf.as4_24 Ybaf.as23_24 Ybaf.as24_24 Ybaf.as72_24 Ybaf.as37_37 Ybaf.isIface20 Ybaf.isIface33 Ybaf.mapNil Ybaf.slNot Ybaf.slNil
attribute [local go_sem] Ybaf.ptNot Ybaf.ptNil

set_option maxRecDepth 100000 in
set_option maxHeartbeats 3200000 in
theorem law_zero3 (F : Interp) (top : Int) (ts : ByteArray) (av : Option Addr) (cap : Nat) (w : World) (hF : F.answers w.tape) (hs : top.tmod 5 = 3)
    (htx : ∀ i : Nat, i ≤ 65536 → (FmtStop.textOf (F "fmt.Sprintf" [[109, 101, 116, 97, 100, 97, 116, 97, 46, 111, 119, 110, 101, 114, 82, 101, 102, 101, 114, 101, 110, 99, 101, 115, 91, 37, 100, 93], Ybaf.shape3, Go.Extern.Stop.digits 8 ((i : Int) % 18446744073709551616).toNat] 0)).size ≤ 100) :
    Calls Ybaf.prog 3 #[.int .u8 top, .string ts, .slice av 0 cap] w fun e w' => e = .returned (.bool true) ∧ Below w.heap.size w w' := by
  have hmm := @run_makeMap Ybaf.prog
  have hmk : ∀ w : World, (Instr.makeSlice 24 (.int .i64 0) (.int .i64 0)).run Ybaf.prog w = .ok (.slice (some ⟨w.heap.size, 0, none⟩) 0 0) (w.alloc (.cells (madeCells #[.nilIface] 0) 20)) := fun w => mk24 0 (by omega) w
  have HF := hid hF
  have HI := hid (L1.start [] 0 w rfl)
  have HTX := hid htx
  clear hF htx
  go_enter Ybaf.func3, Ybaf.ntmps3
  go_wp2
  apply wp_loop_rounds 1
  rw [rounds_succ]
  go_wp2_with (first | (at_mapUpdate; refine wpList_upd _ rfl _ _ _ rfl w.heap.size _ _ KO _ rfl HI.out.mt rfl rfl sKO (by omega) rfl ?_; intro w1 h1 t1; have H1 := hid h1; have HT := hid t1; clear h1 t1))
  refine (own_arr F [] _ (w.heap.size + 1) 0 _ _ w1 (HI.out.ready HT.out rfl HF.out HTX.out (fun i m h => by simp at h) (by omega)) rfl (H1.out.look sKO)).mono ?_
  rintro e w3 ⟨hk3, ⟨i0, m0, p, hg0, hm0, _⟩ | ⟨hgn, br, rfl, hrf, hmp⟩⟩
  · simp at hm0
  · have hA := A3.start (ab := 0) (ao := 0) (fun i m h => by simp at h) HI.out rfl HT.out H1.out hk3 hmp
    have hlen : ∀ ty, (Builtin.len_ #[23] ty #[.map (some w.heap.size)]).run Ybaf.prog w3 = .ok (.int .i64 1) w3 := fun ty => hA.mt.len ty
    have hlk : (Instr.lookup 23 (.map (some w.heap.size)) (.string ⟨#[111, 119, 110, 101, 114, 82, 101, 102, 101, 114, 101, 110, 99, 101, 115]⟩) false).run Ybaf.prog w3 = .ok (.iface 24 (.slice (some ⟨w.heap.size + 1, 0, none⟩) 0 0)) w3 := hA.mt.look sKO
    have HB := hid hA.bel
    clear hA hk3 hrf hmp hgn
    go_wp2
    apply wp_loop_rounds 1
    rw [rounds_succ]
    go_wp2
    apply wp_loop_rounds 1
    rw [rounds_succ]
    go_wp2
    apply wp_loop_rounds 1
    rw [rounds_succ]
    go_wp2
    go_ret
    exact ⟨rfl, HB.out⟩

set_option maxRecDepth 100000 in
set_option maxHeartbeats 3200000 in
theorem law_zero4 (F : Interp) (top : Int) (ts : ByteArray) (av : Option Addr) (cap : Nat) (w : World) (hF : F.answers w.tape) (hs : top.tmod 5 = 4)
    (htx : ∀ i : Nat, i ≤ 65536 → (FmtStop.textOf (F "fmt.Sprintf" [[109, 101, 116, 97, 100, 97, 116, 97, 46, 111, 119, 110, 101, 114, 82, 101, 102, 101, 114, 101, 110, 99, 101, 115, 91, 37, 100, 93], Ybaf.shape3, Go.Extern.Stop.digits 8 ((i : Int) % 18446744073709551616).toNat] 0)).size ≤ 100) :
    Calls Ybaf.prog 3 #[.int .u8 top, .string ts, .slice av 0 cap] w fun e w' => e = .returned (.bool true) ∧ Below w.heap.size w w' := by
  have hmm := @run_makeMap Ybaf.prog
  have hmk : ∀ w : World, (Instr.makeSlice 24 (.int .i64 0) (.int .i64 0)).run Ybaf.prog w = .ok (.slice (some ⟨w.heap.size, 0, none⟩) 0 0) (w.alloc (.cells (madeCells #[.nilIface] 0) 20)) := fun w => mk24 0 (by omega) w
  have HF := hid hF
  have HI := hid (L1.start [] 0 w rfl)
  have HTX := hid htx
  clear hF htx
  go_enter Ybaf.func3, Ybaf.ntmps3
  go_wp2
  apply wp_loop_rounds 1
  rw [rounds_succ]
  go_wp2_with (first | (at_mapUpdate; refine wpList_upd _ rfl _ _ _ rfl w.heap.size _ _ KO _ rfl HI.out.mt rfl rfl sKO (by omega) rfl ?_; intro w1 h1 t1; have H1 := hid h1; have HT := hid t1; clear h1 t1))
  refine (own_arr F [] _ (w.heap.size + 1) 0 _ _ w1 (HI.out.ready HT.out rfl HF.out HTX.out (fun i m h => by simp at h) (by omega)) rfl (H1.out.look sKO)).mono ?_
  rintro e w3 ⟨hk3, ⟨i0, m0, p, hg0, hm0, _⟩ | ⟨hgn, br, rfl, hrf, hmp⟩⟩
  · simp at hm0
  · have hA := A3.start (ab := 0) (ao := 0) (fun i m h => by simp at h) HI.out rfl HT.out H1.out hk3 hmp
    have hlen : ∀ ty, (Builtin.len_ #[23] ty #[.map (some w.heap.size)]).run Ybaf.prog w3 = .ok (.int .i64 1) w3 := fun ty => hA.mt.len ty
    have hlk : (Instr.lookup 23 (.map (some w.heap.size)) (.string ⟨#[111, 119, 110, 101, 114, 82, 101, 102, 101, 114, 101, 110, 99, 101, 115]⟩) false).run Ybaf.prog w3 = .ok (.iface 24 (.slice (some ⟨w.heap.size + 1, 0, none⟩) 0 0)) w3 := hA.mt.look sKO
    have HB := hid hA.bel
    clear hA hk3 hrf hmp hgn
    go_wp2
    apply wp_loop_rounds 1
    rw [rounds_succ]
    go_wp2
    apply wp_loop_rounds 1
    rw [rounds_succ]
    go_wp2
    apply wp_loop_rounds 1
    rw [rounds_succ]
    go_wp2
    go_ret
    exact ⟨rfl, HB.out⟩

end Go.Proofs.YbulkegvaFmt
