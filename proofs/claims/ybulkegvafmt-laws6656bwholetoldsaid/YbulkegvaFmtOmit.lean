/-
  DERIVED. The map's operations at the walk; omitEmpty.
-/
import Derived.Test.YbulkegvaFmtMem
set_option linter.unusedVariables false
namespace Go.Proofs.YbulkegvaFmt
open Go.RowKit Go.Extern.Stop Go.Stop Go.Extern Go.Maps
attribute [local go_sem] Ybaf.call13 Ybaf.guard Ybaf.fmt0 Ybaf.fmt0r Ybaf.fmt1 Ybaf.fmt1r Ybaf.fmt2 Ybaf.fmt2r Ybaf.fmt3 Ybaf.fmt3r Ybaf.fmt4 Ybaf.fmt4r
attribute [local go_sem] Ybaf.act3_100 Ybaf.op3_100 Ybaf.str3 Ybaf.act9_115 Ybaf.op9_115 Ybaf.str9 Ybaf.asNil_9 Ybaf.as9_9 Ybaf.as4_9 Ybaf.as23_9 Ybaf.as24_9 Ybaf.as72_9
attribute [local go_sem] Ybaf.asNil_4 Ybaf.as9_4 Ybaf.as4_4 Ybaf.as23_4 Ybaf.as24_4 Ybaf.as72_4 Ybaf.asNil_23 Ybaf.as9_23 Ybaf.as4_23 Ybaf.as23_23 Ybaf.as24_23 Ybaf.as72_23
attribute [local go_sem] Ybaf.asNil_24 Ybaf.as9_24 Ybaf.as4_24 Ybaf.as23_24 Ybaf.as24_24 Ybaf.as72_24 Ybaf.as37_37 Ybaf.isIface20 Ybaf.isIface33

section
variable (w : World) {ops : Array Oper} {rest : List Oper} {o : Oper} {a : Act} {Q : Exit → Act → World → Prop}

theorem wpList_del (hg : o.guard = none) (m x : Operand) (hop : o.op = Op.call { callee := Callee.builtin Builtin.delete, args := #[m, x], argTypes := #[23, 9] })
    (b : Nat) (f : ByteArray → Option Value) (n : Nat) (k : ByteArray) (hm : a.eval m = .map (some b)) (h : MapIs w b f n) (hx : a.eval x = .string k) (hk : k.size ≤ maxLen)
    (hK : ∀ w', MapIs w' b (fun x => if x = k then none else f x) (less (f k) n) → w.mapTurned w' b → wpList Ybaf.prog ops Q rest (a.put o.dst (.tuple #[])) w') :
    wpList Ybaf.prog ops Q (o :: rest) a w := by
  refine wpList_plain hg fun K' hK' => ?_
  obtain ⟨w', hrun, r1, r2⟩ := h.drop hk o.type
  unfold Oper.wp
  simp [execOp, hop, resolve, invoke, builtin, hm, hx, hrun, Result.andThen]
  exact hK' _ _ (hK w' r1 r2)

theorem wpList_upd (hg : o.guard = none) (m x y : Operand) (hop : o.op = Op.mapUpdate 23 m x y)
    (b : Nat) (f : ByteArray → Option Value) (n : Nat) (k : ByteArray) (v : Value) (hm : a.eval m = .map (some b)) (h : MapIs w b f n) (hx : a.eval x = .string k) (hy : a.eval y = v) (hk : k.size ≤ maxLen) (hn : n < 100) (hf : f k = none)
    (hK : ∀ w', MapIs w' b (fun x => if x = k then some v else f x) (n + 1) → w.mapTurned w' b → wpList Ybaf.prog ops Q rest (a.put o.dst undef) w') :
    wpList Ybaf.prog ops Q (o :: rest) a w := by
  refine wpList_plain hg fun K' hK' => ?_
  obtain ⟨w', hrun, r1, r2⟩ := h.store hk hn hf v
  unfold Oper.wp
  simp [execOp, hop, hm, hx, hy, hrun, Result.andThen]
  exact hK' _ _ (hK w' r1 r2)
end

theorem turned_cell {w w' : World} {b : Nat} (h : w.mapTurned w' b) {p : Addr} (hlt : p.block < w.heap.size) (hne : p.block ≠ b) : w'.cell? p = w.cell? p :=
  World.cell?_of_block (w := w) (h.grown.block p.block hlt (by simpa using hne))

/-- What is null under k is struck. -/
def nul : Option Value → Bool | some .nilIface => true | _ => false
def strip (f : ByteArray → Option Value) (k : ByteArray) : ByteArray → Option Value := fun x => if nul (f k) = true ∧ x = k then none else f x
def Plainly (o : Option Value) : Prop := o = none ∨ o = some .nilIface ∨ ∃ x, o = some (.iface 4 x)

set_option maxHeartbeats 1600000 in
theorem omit_nil (k0 k1 : ByteArray) (kb : Nat) (w : World) (hk0 : k0.size ≤ maxLen) (hk1 : k1.size ≤ maxLen)
    (c0 : w.cell? ⟨kb, 0, none⟩ = some (.string k0)) (c1 : w.cell? ⟨kb, 1, none⟩ = some (.string k1)) :
    Calls Ybaf.prog 17 #[.map none, .slice (some ⟨kb, 0, none⟩) 2 2] w fun e w' => e = .returned (.tuple #[]) ∧ w' = w := by
  have l0 := Maps.look_nil (w := w) false law9 Ybaf.underlying23 (zero20 w) (key_of hk0)
  have l1 := Maps.look_nil (w := w) false law9 Ybaf.underlying23 (zero20 w) (key_of hk1)
  have d0 := fun ty => Maps.drop_nil (w := w) law9 Ybaf.underlying23 (key_of hk0) ty
  have d1 := fun ty => Maps.drop_nil (w := w) law9 Ybaf.underlying23 (key_of hk1) ty
  go_enter Ybaf.func17, Ybaf.ntmps17
  go_wp2
  apply wp_loop_rounds 3
  rw [rounds_succ]
  go_wp2
  rw [rounds_succ]
  go_wp2
  rw [rounds_succ]
  go_wp2
  go_end0
  exact ⟨rfl, rfl⟩


theorem hid {p : Prop} (h : p) : Hid p := h

set_option maxHeartbeats 1600000 in
theorem omit_kk (b : Nat) (f : ByteArray → Option Value) (n : Nat) (k0 k1 : ByteArray) (kb : Nat) (w : World) (hk0 : k0.size ≤ maxLen) (hk1 : k1.size ≤ maxLen) (hne : k1 ≠ k0)
    (h : MapIs w b f n) (hkl : kb < w.heap.size) (hkb : kb ≠ b) (c0 : w.cell? ⟨kb, 0, none⟩ = some (.string k0)) (c1 : w.cell? ⟨kb, 1, none⟩ = some (.string k1)) (x0 x1 : Value) (e0 : (f k0).getD .nilIface = .iface 4 x0) (e1 : (f k1).getD .nilIface = .iface 4 x1) :
    Calls Ybaf.prog 17 #[.map (some b), .slice (some ⟨kb, 0, none⟩) 2 2] w fun e w' => e = .returned (.tuple #[]) ∧  w' = w := by
  have l0 := h.look hk0
  have l1 := h.look hk1
  rw [e0] at l0
  rw [e1] at l1
  clear h e0 e1
  go_enter Ybaf.func17, Ybaf.ntmps17
  go_wp2
  apply wp_loop_rounds 3
  rw [rounds_succ]
  go_wp2
  rw [rounds_succ]
  go_wp2
  rw [rounds_succ]
  go_wp2
  go_end0
  exact ⟨rfl, rfl⟩

set_option maxHeartbeats 1600000 in
theorem omit_kd (b : Nat) (f : ByteArray → Option Value) (n : Nat) (k0 k1 : ByteArray) (kb : Nat) (w : World) (hk0 : k0.size ≤ maxLen) (hk1 : k1.size ≤ maxLen) (hne : k1 ≠ k0)
    (h : MapIs w b f n) (hkl : kb < w.heap.size) (hkb : kb ≠ b) (c0 : w.cell? ⟨kb, 0, none⟩ = some (.string k0)) (c1 : w.cell? ⟨kb, 1, none⟩ = some (.string k1)) (x0 : Value) (e0 : (f k0).getD .nilIface = .iface 4 x0) (e1 : (f k1).getD .nilIface = .nilIface) :
    Calls Ybaf.prog 17 #[.map (some b), .slice (some ⟨kb, 0, none⟩) 2 2] w fun e w' => e = .returned (.tuple #[]) ∧  MapIs w' b (fun x => if x = k1 then none else f x) (less (f k1) n) ∧ w.mapTurned w' b := by
  have l0 := h.look hk0
  have l1 := h.look hk1
  rw [e0] at l0
  rw [e1] at l1
  have H := hid h
  clear h e0 e1
  go_enter Ybaf.func17, Ybaf.ntmps17
  go_wp2
  apply wp_loop_rounds 3
  rw [rounds_succ]
  go_wp2
  rw [rounds_succ]
  go_wp2_with (first | (at_delete; refine wpList_del _ rfl _ _ rfl b f n k1 rfl H.out rfl hk1 ?_; intro w1 h1 t1; have H1 := hid h1; clear h1) | go_in)
  rw [rounds_succ]
  go_wp2
  go_end0
  exact ⟨rfl, H1.out, t1⟩

set_option maxHeartbeats 1600000 in
theorem omit_dk (b : Nat) (f : ByteArray → Option Value) (n : Nat) (k0 k1 : ByteArray) (kb : Nat) (w : World) (hk0 : k0.size ≤ maxLen) (hk1 : k1.size ≤ maxLen) (hne : k1 ≠ k0)
    (h : MapIs w b f n) (hkl : kb < w.heap.size) (hkb : kb ≠ b) (c0 : w.cell? ⟨kb, 0, none⟩ = some (.string k0)) (c1 : w.cell? ⟨kb, 1, none⟩ = some (.string k1)) (x1 : Value) (e0 : (f k0).getD .nilIface = .nilIface) (e1 : (f k1).getD .nilIface = .iface 4 x1) :
    Calls Ybaf.prog 17 #[.map (some b), .slice (some ⟨kb, 0, none⟩) 2 2] w fun e w' => e = .returned (.tuple #[]) ∧  MapIs w' b (fun x => if x = k0 then none else f x) (less (f k0) n) ∧ w.mapTurned w' b := by
  have l0 := h.look hk0
  rw [e0] at l0
  have H := hid h
  clear h e0
  go_enter Ybaf.func17, Ybaf.ntmps17
  go_wp2
  apply wp_loop_rounds 3
  rw [rounds_succ]
  go_wp2_with (first | (at_delete; refine wpList_del _ rfl _ _ rfl b f n k0 rfl H.out rfl hk0 ?_; intro w1 h1 t1; have c1' : w1.cell? ⟨kb, 1, none⟩ = some (.string k1) := (turned_cell t1 hkl hkb).trans c1; have l1 := h1.look hk1; rw [if_neg hne, e1] at l1; have H1 := hid h1; clear h1) | go_in)
  rw [rounds_succ]
  go_wp2
  rw [rounds_succ]
  go_wp2
  go_end0
  exact ⟨rfl, H1.out, t1⟩

set_option maxHeartbeats 1600000 in
theorem omit_dd (b : Nat) (f : ByteArray → Option Value) (n : Nat) (k0 k1 : ByteArray) (kb : Nat) (w : World) (hk0 : k0.size ≤ maxLen) (hk1 : k1.size ≤ maxLen) (hne : k1 ≠ k0)
    (h : MapIs w b f n) (hkl : kb < w.heap.size) (hkb : kb ≠ b) (c0 : w.cell? ⟨kb, 0, none⟩ = some (.string k0)) (c1 : w.cell? ⟨kb, 1, none⟩ = some (.string k1)) (e0 : (f k0).getD .nilIface = .nilIface) (e1 : (f k1).getD .nilIface = .nilIface) :
    Calls Ybaf.prog 17 #[.map (some b), .slice (some ⟨kb, 0, none⟩) 2 2] w fun e w' => e = .returned (.tuple #[]) ∧  MapIs w' b (fun x => if x = k1 then none else if x = k0 then none else f x) (less (f k1) (less (f k0) n)) ∧ w.mapTurned w' b := by
  have l0 := h.look hk0
  rw [e0] at l0
  have H := hid h
  clear h e0
  go_enter Ybaf.func17, Ybaf.ntmps17
  go_wp2
  apply wp_loop_rounds 3
  rw [rounds_succ]
  go_wp2_with (first | (at_delete; refine wpList_del _ rfl _ _ rfl b f n k0 rfl H.out rfl hk0 ?_; intro w1 h1 t1; have c1' : w1.cell? ⟨kb, 1, none⟩ = some (.string k1) := (turned_cell t1 hkl hkb).trans c1; have l1 := h1.look hk1; rw [if_neg hne, e1] at l1; have H1 := hid h1; clear h1) | go_in)
  rw [rounds_succ]
  go_wp2_with (first | (at_delete; refine wpList_del _ rfl _ _ rfl b _ _ k1 rfl H1.out rfl hk1 ?_; intro w2 h2 t2; have H2 := hid h2; clear h2) | go_in)
  rw [rounds_succ]
  go_wp2
  go_end0
  refine ⟨rfl, ?_, t1.trans t2⟩
  have h2 := H2.out
  rw [if_neg hne] at h2
  exact h2

end Go.Proofs.YbulkegvaFmt
