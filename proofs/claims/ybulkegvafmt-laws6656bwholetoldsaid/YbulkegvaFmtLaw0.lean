/-
  DERIVED. The law where no array is built: too many members; the keys of kind 0, 1, 2.
-/
import Derived.Test.YbulkegvaFmtOwnB
import Derived.Test.YbulkegvaFmtOwnC
set_option linter.unusedVariables false
namespace Go.Proofs.YbulkegvaFmt
open Go.RowKit Go.Extern.Stop Go.Stop Go.Extern Go.Maps
attribute [local go_sem] Ybaf.call13 Ybaf.guard Ybaf.fmt0 Ybaf.fmt0r Ybaf.fmt1 Ybaf.fmt1r Ybaf.fmt2 Ybaf.fmt2r Ybaf.fmt3 Ybaf.fmt3r Ybaf.fmt4 Ybaf.fmt4r
attribute [local go_sem] Ybaf.act3_100 Ybaf.op3_100 Ybaf.str3 Ybaf.act9_115 Ybaf.op9_115 Ybaf.str9 Ybaf.asNil_9 Ybaf.as9_9 Ybaf.as4_9 Ybaf.as23_9 Ybaf.as24_9 Ybaf.as72_9
attribute [local go_sem] Ybaf.asNil_4 Ybaf.as9_4 Ybaf.as4_4 Ybaf.as23_4 Ybaf.as24_4 Ybaf.as72_4 Ybaf.asNil_23 Ybaf.as9_23 Ybaf.as4_23 Ybaf.as23_23 Ybaf.as24_23 Ybaf.as72_23
attribute [local go_sem] Ybaf.asNil_24 Ybaf.as9_24 Ybaf.as4_24 Ybaf.as23_24 Ybaf.as24_24 Ybaf.as72_24 Ybaf.as37_37 Ybaf.isIface20 Ybaf.isIface33 Ybaf.mapNil

theorem Ybaf.slNot (a : Addr) (n c : Nat) (w : World) : (binOp .eql 31 (.slice (some a) n c) (.slice none 0 0)).run Ybaf.prog w = .ok (.bool false) w := by kernel_rfl
attribute [local go_sem] Ybaf.slNot
theorem Ybaf.slNil (w : World) : (binOp .neq 31 (.slice none 0 0) (.slice none 0 0)).run Ybaf.prog w = .ok (.bool false) w := by kernel_rfl
attribute [local go_sem] Ybaf.slNil
theorem Ybaf.ptNot (a : Addr) (w : World) : (binOp .eql 37 (.pointer (some a)) (.pointer none)).run Ybaf.prog w = .ok (.bool false) w := by kernel_rfl
attribute [local go_sem] Ybaf.ptNot
theorem Ybaf.ptNil (w : World) : (binOp .neq 40 (.pointer none) (.pointer none)).run Ybaf.prog w = .ok (.bool false) w := by kernel_rfl
attribute [local go_sem] Ybaf.ptNil

set_option maxRecDepth 100000 in
set_option maxHeartbeats 1600000 in
theorem law_big (top : Int) (ts : ByteArray) (av : Option Addr) (n cap : Nat) (w : World) (hn : 65536 < n) :
    Calls Ybaf.prog 3 #[.int .u8 top, .string ts, .slice av n cap] w fun e w' => e = .returned (.bool true) ∧ w' = w := by
  have hn' : (65536 : Int) < (n : Int) := by omega
  go_enter Ybaf.func3, Ybaf.ntmps3
  go_wp2
  go_ret
  exact ⟨rfl, rfl⟩

set_option maxRecDepth 100000 in
set_option maxHeartbeats 1600000 in
theorem law_0 (top : Int) (ts : ByteArray) (av : Option Addr) (n cap : Nat) (w : World) (hn : n ≤ 65536) (hs : top.tmod 5 = 0) :
    Calls Ybaf.prog 3 #[.int .u8 top, .string ts, .slice av n cap] w fun e w' => e = .returned (.bool true) ∧ Below w.heap.size w w' := by
  have hn' : ¬ (65536 : Int) < (n : Int) := by omega
  have hmm := @run_makeMap Ybaf.prog
  have HM := hid (MapIs.made w)
  go_enter Ybaf.func3, Ybaf.ntmps3
  go_wp2_with fail
  refine (own_nil _ _ (HM.out.look sKO)).mono ?_
  rintro e w3 ⟨rfl, hb3⟩
  have hlen : ∀ ty, (Builtin.len_ #[23] ty #[.map (some w.heap.size)]).run Ybaf.prog w3 = .ok (.int .i64 0) w3 := fun ty => (HM.out.same (hb3.block _ HM.out.lt)).len ty
  have HB : Hid (Below w.heap.size w w3) := ((Below.refl _ w).alloc (Nat.le_refl _) _).trans (hb3.mono (by simp))
  clear hb3
  go_wp2
  apply wp_loop_rounds 1
  rw [rounds_succ]
  go_wp2
  go_ret
  exact ⟨rfl, HB.out⟩

set_option maxRecDepth 100000 in
set_option maxHeartbeats 1600000 in
theorem law_1 (top : Int) (ts : ByteArray) (av : Option Addr) (n cap : Nat) (w : World) (hn : n ≤ 65536) (hs : top.tmod 5 = 1) :
    Calls Ybaf.prog 3 #[.int .u8 top, .string ts, .slice av n cap] w fun e w' => e = .returned (.bool true) ∧ Below w.heap.size w w' := by
  have hn' : ¬ (65536 : Int) < (n : Int) := by omega
  have hmm := @run_makeMap Ybaf.prog
  have HM := hid (MapIs.made w)
  go_enter Ybaf.func3, Ybaf.ntmps3
  go_wp2_with (first | (at_mapUpdate; refine wpList_upd _ rfl _ _ _ rfl w.heap.size _ _ KO _ rfl HM.out rfl rfl sKO (by omega) rfl ?_; intro w1 h1 t1; have H1 := hid h1; have HT := hid t1; clear h1 t1))
  refine (own_nil _ _ (H1.out.look sKO)).mono ?_
  rintro e w3 ⟨rfl, hb3⟩
  have H3 := hid (H1.out.same (hb3.block _ H1.out.lt))
  have hlen : ∀ ty, (Builtin.len_ #[23] ty #[.map (some w.heap.size)]).run Ybaf.prog w3 = .ok (.int .i64 1) w3 := fun ty => H3.out.len ty
  have hlk : (Instr.lookup 23 (.map (some w.heap.size)) (.string ⟨#[111, 119, 110, 101, 114, 82, 101, 102, 101, 114, 101, 110, 99, 101, 115]⟩) true).run Ybaf.prog w3 = .ok (.tuple #[.nilIface, .bool true]) w3 := H3.out.lookOk sKO
  have HB : Hid (Below w.heap.size w w3) := (((Below.refl _ w).alloc (Nat.le_refl _) _).grown HT.out.grown (by simp) (fun k e => by cases e; exact Nat.le_refl _)).trans (hb3.mono (Nat.le_trans (by simp) HT.out.grown.size))
  clear hb3
  go_wp2
  apply wp_loop_rounds 1
  rw [rounds_succ]
  go_wp2
  go_ret
  exact ⟨rfl, HB.out⟩

theorem err_cells {w : World} {p : Nat} (h : ErrAt w p) : w.cell? ⟨p, 0, none⟩ = some (.string ⟨#[83, 116, 97, 116, 117, 115]⟩) ∧ w.cell? ⟨p, 1, none⟩ = some (.string ⟨#[118, 49]⟩) ∧ w.cell? ⟨p, 2, none⟩ = some (.string ⟨#[70, 97, 105, 108, 117, 114, 101]⟩) ∧
    w.cell? ⟨p, 4, none⟩ = some (.string ⟨#[66, 97, 100, 82, 101, 113, 117, 101, 115, 116]⟩) ∧ w.cell? ⟨p, 5, none⟩ = some (.pointer none) ∧ w.cell? ⟨p, 6, none⟩ = some (.int .i64 400) := by
  obtain ⟨msg, h⟩ := h
  exact ⟨cell_at h rfl, cell_at h rfl, cell_at h rfl, cell_at h rfl, cell_at h rfl, cell_at h rfl⟩

set_option maxRecDepth 100000 in
set_option maxHeartbeats 1600000 in
theorem law_2 (F : Interp) (top : Int) (ts : ByteArray) (av : Option Addr) (n cap : Nat) (w : World) (hF : F.answers w.tape) (hn : n ≤ 65536) (hs : top.tmod 5 = 2) :
    Calls Ybaf.prog 3 #[.int .u8 top, .string ts, .slice av n cap] w fun e w' => e = .returned (.bool true) ∧ Below w.heap.size w w' := by
  have hn' : ¬ (65536 : Int) < (n : Int) := by omega
  have hmm := @run_makeMap Ybaf.prog
  have HM := hid (MapIs.made w)
  have HF := hid hF
  clear hF
  go_enter Ybaf.func3, Ybaf.ntmps3
  go_wp2_with (first | (at_mapUpdate; refine wpList_upd _ rfl _ _ _ rfl w.heap.size _ _ KO _ rfl HM.out rfl rfl sKO (by omega) rfl ?_; intro w1 h1 t1; have H1 := hid h1; have HT := hid t1; clear h1 t1))
  refine (own_bad F _ (.string ts) _ (by rw [HT.out.grown.tape]; exact HF.out) (H1.out.look sKO)).mono ?_
  rintro e w3 ⟨p, rfl, hp, he, hb3⟩
  have H3 := hid (H1.out.same (hb3.block _ H1.out.lt))
  have hlen : ∀ ty, (Builtin.len_ #[23] ty #[.map (some w.heap.size)]).run Ybaf.prog w3 = .ok (.int .i64 1) w3 := fun ty => H3.out.len ty
  have hlk : (Instr.lookup 23 (.map (some w.heap.size)) (.string ⟨#[111, 119, 110, 101, 114, 82, 101, 102, 101, 114, 101, 110, 99, 101, 115]⟩) false).run Ybaf.prog w3 = .ok (.iface 9 (.string ts)) w3 := H3.out.look sKO
  have HB : Hid (Below w.heap.size w w3) := (((Below.refl _ w).alloc (Nat.le_refl _) _).grown HT.out.grown (by simp) (fun k e => by cases e; exact Nat.le_refl _)).trans (hb3.mono (Nat.le_trans (by simp) HT.out.grown.size))
  obtain ⟨y0, y1, y2, y4, y5, y6⟩ := err_cells he
  clear hb3 he hp
  go_wp2
  go_ret
  exact ⟨by simp, HB.out⟩

end Go.Proofs.YbulkegvaFmt
