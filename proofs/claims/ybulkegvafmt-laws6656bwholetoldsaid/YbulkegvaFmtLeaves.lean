/-
  DERIVED. The leaves: small callees by their contracts.
-/
import Derived.Test.YbulkegvaFmtRows
import Derived.Test.YbulkegvaFmtMaps
import Derived.Test.YbulkegvaFmtFmt
import Derived.Test.YbulkegvaFmtAsserts
import Derived.WalkKit
import Derived.WalkSpells
import Derived.WalkLawsBesides
import Derived.Below
import Derived.Laws.FloatBits
import Derived.Laws.StructEq
namespace Go.Proofs.YbulkegvaFmt
open Go.RowKit Go.Extern.Stop Go.Stop Go.Extern
attribute [local go_sem] Ybaf.call13 Ybaf.guard Ybaf.fmt0 Ybaf.fmt0r Ybaf.fmt1 Ybaf.fmt1r Ybaf.fmt2 Ybaf.fmt2r Ybaf.fmt3 Ybaf.fmt3r Ybaf.fmt4 Ybaf.fmt4r
attribute [local go_sem] Ybaf.act3_100 Ybaf.op3_100 Ybaf.str3 Ybaf.act9_115 Ybaf.op9_115 Ybaf.str9 Ybaf.asNil_9 Ybaf.as9_9 Ybaf.as4_9 Ybaf.as23_9 Ybaf.as24_9 Ybaf.as72_9
attribute [local go_sem] Ybaf.asNil_4 Ybaf.as9_4 Ybaf.as4_4 Ybaf.as23_4 Ybaf.as24_4 Ybaf.as72_4 Ybaf.asNil_23 Ybaf.as9_23 Ybaf.as4_23 Ybaf.as23_23 Ybaf.as24_23 Ybaf.as72_23
attribute [local go_sem] Ybaf.asNil_24 Ybaf.as9_24 Ybaf.as4_24 Ybaf.as23_24 Ybaf.as24_24 Ybaf.as72_24 Ybaf.as37_37 Ybaf.isIface20 Ybaf.isIface33

/-! ### a float made of a natural number equals itself -/
theorem order_self (d : Ieee.Datum) (h : d.isNaN = false) : d.order d = some .eq := by
  cases d with
  | number s m i => simp [Ieee.Datum.order]
  | infinity s => simp [Ieee.Datum.order]
  | nan s t => simp [Ieee.Datum.isNaN] at h

theorem nearest_le (f : Ieee.Format) (mag : Nat) (place : Int) : f.nearest false mag place ≤ f.infRung := by
  unfold Ieee.Format.nearest
  split
  · simp [Ieee.Format.word]
  · simp only [Ieee.Format.word]
    exact Nat.min_le_right _ _

theorem read_num (f : Ieee.Format) (x : Nat) (hx : x ≤ f.infRung) : (f.read x).isNaN = false := by
  unfold Ieee.Format.read
  have hs := f.infRung_lt
  have e1 : x % f.signWeight = x := Nat.mod_eq_of_lt (by omega)
  simp only [e1]
  split
  · rfl
  · split
    · rfl
    · split
      · rfl
      · omega

theorem order_near (f : Ieee.Format) (mag : Nat) (place : Int) : f.order (f.nearest false mag place) (f.nearest false mag place) = some .eq := by
  unfold Ieee.Format.order
  exact order_self _ (read_num f _ (nearest_le f mag place))

theorem near_eq (k : FloatKind) (n : Nat) : floatOfInt k n = k.format.nearest false n 0 := by
  unfold floatOfInt FloatKind.nearest FloatKind.encode Ieee.Format.write
  have e0 : decide ((n : Int) < 0) = false := by simp
  rw [e0]
  rfl

theorem float_self (k : FloatKind) (n : Nat) : Op.floatEq k (floatOfInt k n) (floatOfInt k n) = true := by
  rw [near_eq]
  unfold Op.floatEq
  rw [order_near]
  rfl

/-! ### zzs6656bsval, zzs6656bbval -/
def sval (t : Int) (s : ByteArray) : Value := if t = 1 then .nilIface else if t = 2 then .iface 9 (.string s) else .iface 72 (.float .f64 (floatOfInt .f64 s.size))
def bval (t : Int) (b : Bool) : Value := if t = 1 then .nilIface else if t = 2 then .iface 4 (.bool b) else .iface 9 (.string ⟨#[121, 101, 115]⟩)

set_option maxHeartbeats 400000 in
theorem sval_c (t : Int) (s : ByteArray) (w : World) :
    Calls Ybaf.prog 10 #[.int .u8 t, .string s] w fun e w' => e = .returned (sval t s) ∧ w' = w := by
  unfold sval
  by_cases h1 : t = 1
  · subst h1
    go_enter Ybaf.func10, Ybaf.ntmps10
    go_wp2
    go_ret
    exact ⟨rfl, rfl⟩
  · by_cases h2 : t = 2
    · subst h2
      go_enter Ybaf.func10, Ybaf.ntmps10
      go_wp2
      go_ret
      exact ⟨rfl, rfl⟩
    · simp only [h1, h2, if_false]
      go_enter Ybaf.func10, Ybaf.ntmps10
      go_wp2
      go_ret
      exact ⟨rfl, rfl⟩

set_option maxHeartbeats 400000 in
theorem bval_c (t : Int) (b : Bool) (w : World) :
    Calls Ybaf.prog 11 #[.int .u8 t, .bool b] w fun e w' => e = .returned (bval t b) ∧ w' = w := by
  unfold bval
  by_cases h1 : t = 1
  · subst h1
    go_enter Ybaf.func11, Ybaf.ntmps11
    go_wp2
    go_ret
    exact ⟨rfl, rfl⟩
  · by_cases h2 : t = 2
    · subst h2
      go_enter Ybaf.func11, Ybaf.ntmps11
      go_wp2
      go_ret
      exact ⟨rfl, rfl⟩
    · simp only [h1, h2, if_false]
      go_enter Ybaf.func11, Ybaf.ntmps11
      go_wp2
      go_ret
      exact ⟨rfl, rfl⟩

set_option maxHeartbeats 400000 in
theorem keys_c (w : World) :
    Calls Ybaf.prog 9 #[] w fun e w' => e = .returned (.agg #[.string ⟨#[97, 112, 105, 86, 101, 114, 115, 105, 111, 110]⟩, .string ⟨#[107, 105, 110, 100]⟩, .string ⟨#[110, 97, 109, 101]⟩, .string ⟨#[117, 105, 100]⟩]) ∧ Below w.heap.size w w' := by
  go_enter Ybaf.func9, Ybaf.ntmps9
  go_wp2
  refine ⟨rfl, _, results_cell_row rfl _ _ w.heap.size 53 _ _ _ rfl (heap_alloc_new _ _) Ybaf.underlying53 rfl (by kernel_rfl), rfl, (Below.refl _ w).alloc (Nat.le_refl _) _⟩

set_option maxHeartbeats 400000 in
theorem status_c (s : ByteArray) (c : Int) (w : World) :
    Calls Ybaf.prog 19 #[.string s, .int .i64 c] w fun e w' => e = .returned (.agg #[.string ⟨#[83, 116, 97, 116, 117, 115]⟩, .string ⟨#[118, 49]⟩, .string s, .string ⟨#[]⟩, .string ⟨#[]⟩, .pointer none, .int .i64 c]) ∧ w' = w.alloc (.cells #[.string ⟨#[83, 116, 97, 116, 117, 115]⟩, .string ⟨#[118, 49]⟩, .string s, .string ⟨#[]⟩, .string ⟨#[]⟩, .pointer none, .int .i64 c] 42) := by
  go_enter Ybaf.func19, Ybaf.ntmps19
  go_wp2
  exact ⟨rfl, _, results_cell_row rfl _ _ w.heap.size 42 _ _ _ rfl (heap_alloc_new _ _) Ybaf.underlying42 rfl (by kernel_rfl), rfl, rfl⟩

/-- Block p is a status error of a bad request. -/
def ErrAt (w : World) (p : Nat) : Prop := ∃ msg : ByteArray, w.heap[p]? = some (.cells #[.string ⟨#[83, 116, 97, 116, 117, 115]⟩, .string ⟨#[118, 49]⟩, .string ⟨#[70, 97, 105, 108, 117, 114, 101]⟩, .string msg, .string ⟨#[66, 97, 100, 82, 101, 113, 117, 101, 115, 116]⟩, .pointer none, .int .i64 400] 44 (0, 0))

set_option maxHeartbeats 800000 in
theorem fail_c (F : Interp) (f x : ByteArray) (b : Nat) (w : World) (hF : F.answers w.tape) (hf : FmtStop.printed? f 1 = some [(0, 115, false)])
    (hb : b < w.heap.size) (hc : w.cell? ⟨b, 0, none⟩ = some (.iface 9 (.string x))) :
    Calls Ybaf.prog 14 #[.int .i64 400, .string ⟨#[66, 97, 100, 82, 101, 113, 117, 101, 115, 116]⟩, .string f, .slice (some ⟨b, 0, none⟩) 1 1] w fun e w' =>
      ∃ p, e = .returned (.pointer (some ⟨p, 0, none⟩)) ∧ w.heap.size ≤ p ∧ ErrAt w' p ∧ Below w.heap.size w w' := by
  have hF' := answers_open hF
  go_enter Ybaf.func14, Ybaf.ntmps14
  go_wp2_with (first | (go_at_call 19; refine (status_c _ _ _).mono ?_; rintro e w' ⟨rfl, rfl⟩))
  apply rows_value Ybaf.nextTurns
  case hr =>
    go_simp
    exact ⟨rfl, rfl⟩
  case h =>
    go_wp2
    go_ret
    exact ⟨w.heap.size + 1, rfl, Nat.le_add_right _ _, ⟨_, heap_alloc2_new _ _ _⟩, (((Below.refl _ w).alloc (Nat.le_refl _) _).alloc (by simp) _).drew⟩


set_option maxHeartbeats 400000 in
theorem str_nil (mv : Value) (k what : ByteArray) (w : World) (hl : (Instr.lookup 23 mv (.string k) false).run Ybaf.prog w = .ok .nilIface w) :
    Calls Ybaf.prog 15 #[mv, .string k, .string what] w fun e w' => e = .returned (.tuple #[.string ⟨#[]⟩, .nilIface]) ∧ w' = w := by
  go_enter Ybaf.func15, Ybaf.ntmps15
  go_wp2
  go_ret2
  exact ⟨rfl, rfl⟩

set_option maxHeartbeats 400000 in
theorem str_ok (mv : Value) (k what : ByteArray) (v : Value) (w : World) (hl : (Instr.lookup 23 mv (.string k) false).run Ybaf.prog w = .ok (.iface 9 v) w) :
    Calls Ybaf.prog 15 #[mv, .string k, .string what] w fun e w' => e = .returned (.tuple #[v, .nilIface]) ∧ w' = w := by
  go_enter Ybaf.func15, Ybaf.ntmps15
  go_wp2
  go_ret2
  exact ⟨rfl, rfl⟩

set_option maxHeartbeats 800000 in
theorem str_bad (F : Interp) (mv : Value) (k what : ByteArray) (v : Value) (w : World) (hF : F.answers w.tape) (hl : (Instr.lookup 23 mv (.string k) false).run Ybaf.prog w = .ok (.iface 72 v) w) :
    Calls Ybaf.prog 15 #[mv, .string k, .string what] w fun e w' => ∃ p, e = .returned (.tuple #[.string ⟨#[]⟩, .iface 37 (.pointer (some ⟨p, 0, none⟩))]) ∧ w.heap.size ≤ p ∧ ErrAt w' p ∧ Below w.heap.size w w' := by
  go_enter Ybaf.func15, Ybaf.ntmps15
  go_wp2_with (first | (go_at_call 14; refine (fail_c F _ what w.heap.size _ (by exact hF) Ybaf.fmt2 (by simp) (by go_simp)).mono ?_; rintro e w' ⟨p, rfl, hp, he, hb⟩))
  go_ret2
  refine ⟨p, rfl, Nat.le_trans (by simp) hp, he, ((Below.refl _ w).alloc (Nat.le_refl _) _).trans (hb.mono (by simp))⟩

set_option maxHeartbeats 400000 in
theorem boo_nil (mv : Value) (k what : ByteArray) (w : World) (hl : (Instr.lookup 23 mv (.string k) false).run Ybaf.prog w = .ok .nilIface w) :
    Calls Ybaf.prog 16 #[mv, .string k, .string what] w fun e w' => e = .returned (.tuple #[.bool false, .nilIface]) ∧ w' = w := by
  go_enter Ybaf.func16, Ybaf.ntmps16
  go_wp2
  go_ret2
  exact ⟨rfl, rfl⟩

set_option maxHeartbeats 400000 in
theorem boo_ok (mv : Value) (k what : ByteArray) (v : Value) (w : World) (hl : (Instr.lookup 23 mv (.string k) false).run Ybaf.prog w = .ok (.iface 4 v) w) :
    Calls Ybaf.prog 16 #[mv, .string k, .string what] w fun e w' => e = .returned (.tuple #[v, .nilIface]) ∧ w' = w := by
  go_enter Ybaf.func16, Ybaf.ntmps16
  go_wp2
  go_ret2
  exact ⟨rfl, rfl⟩

set_option maxHeartbeats 800000 in
theorem boo_bad (F : Interp) (mv : Value) (k what : ByteArray) (v : Value) (w : World) (hF : F.answers w.tape) (hl : (Instr.lookup 23 mv (.string k) false).run Ybaf.prog w = .ok (.iface 9 v) w) :
    Calls Ybaf.prog 16 #[mv, .string k, .string what] w fun e w' => ∃ p, e = .returned (.tuple #[.bool false, .iface 37 (.pointer (some ⟨p, 0, none⟩))]) ∧ w.heap.size ≤ p ∧ ErrAt w' p ∧ Below w.heap.size w w' := by
  go_enter Ybaf.func16, Ybaf.ntmps16
  go_wp2_with (first | (go_at_call 14; refine (fail_c F _ what w.heap.size _ (by exact hF) Ybaf.fmt3 (by simp) (by go_simp)).mono ?_; rintro e w' ⟨p, rfl, hp, he, hb⟩))
  go_ret2
  refine ⟨p, rfl, Nat.le_trans (by simp) hp, he, ((Below.refl _ w).alloc (Nat.le_refl _) _).trans (hb.mono (by simp))⟩

set_option maxHeartbeats 400000 in
theorem arr_nil (mv : Value) (k what : ByteArray) (w : World) (hl : (Instr.lookup 23 mv (.string k) false).run Ybaf.prog w = .ok .nilIface w) :
    Calls Ybaf.prog 12 #[mv, .string k, .string what] w fun e w' => e = .returned (.tuple #[.slice none 0 0, .nilIface]) ∧ w' = w := by
  go_enter Ybaf.func12, Ybaf.ntmps12
  go_wp2
  go_ret2
  exact ⟨rfl, rfl⟩

set_option maxHeartbeats 400000 in
theorem arr_ok (mv : Value) (k what : ByteArray) (v : Value) (w : World) (hl : (Instr.lookup 23 mv (.string k) false).run Ybaf.prog w = .ok (.iface 24 v) w) :
    Calls Ybaf.prog 12 #[mv, .string k, .string what] w fun e w' => e = .returned (.tuple #[v, .nilIface]) ∧ w' = w := by
  go_enter Ybaf.func12, Ybaf.ntmps12
  go_wp2
  go_ret2
  exact ⟨rfl, rfl⟩

set_option maxHeartbeats 800000 in
theorem arr_bad (F : Interp) (mv : Value) (k what : ByteArray) (v : Value) (w : World) (hF : F.answers w.tape) (hl : (Instr.lookup 23 mv (.string k) false).run Ybaf.prog w = .ok (.iface 9 v) w) :
    Calls Ybaf.prog 12 #[mv, .string k, .string what] w fun e w' => ∃ p, e = .returned (.tuple #[.slice none 0 0, .iface 37 (.pointer (some ⟨p, 0, none⟩))]) ∧ w.heap.size ≤ p ∧ ErrAt w' p ∧ Below w.heap.size w w' := by
  go_enter Ybaf.func12, Ybaf.ntmps12
  go_wp2_with (first | (go_at_call 14; refine (fail_c F _ what w.heap.size _ (by exact hF) Ybaf.fmt1 (by simp) (by go_simp)).mono ?_; rintro e w' ⟨p, rfl, hp, he, hb⟩))
  go_ret2
  refine ⟨p, rfl, Nat.le_trans (by simp) hp, he, ((Below.refl _ w).alloc (Nat.le_refl _) _).trans (hb.mono (by simp))⟩

/-! ### zzs6656bhas -/
theorem Ybaf.guardNil (i j : Nat) (w : World) : (eqGuard .eql 20 (.tmp i) (.tmp j) .nilIface .nilIface).run Ybaf.prog w = .ok () w := by kernel_rfl
theorem Ybaf.guardIf (t u : Nat) (x y : Value) (i j : Nat) (w : World) : (eqGuard .eql 20 (.tmp i) (.tmp j) (.iface t x) (.iface u y)).run Ybaf.prog w = .ok () w := by kernel_rfl
theorem guard_sval (t : Int) (s : ByteArray) (i j : Nat) (w : World) : (eqGuard .eql 20 (.tmp i) (.tmp j) (sval t s) (sval t s)).run Ybaf.prog w = .ok () w := by
  unfold sval
  split
  · exact Ybaf.guardNil i j w
  · split
    · exact Ybaf.guardIf ..
    · exact Ybaf.guardIf ..
theorem guard_bval (t : Int) (b : Bool) (i j : Nat) (w : World) : (eqGuard .eql 20 (.tmp i) (.tmp j) (bval t b) (bval t b)).run Ybaf.prog w = .ok () w := by
  unfold bval
  split
  · exact Ybaf.guardNil i j w
  · split
    · exact Ybaf.guardIf ..
    · exact Ybaf.guardIf ..

theorem eql_sval (t : Int) (s : ByteArray) (w : World) : (binOp .eql 20 (sval t s) (sval t s)).run Ybaf.prog w = .ok (.bool true) w := by
  unfold sval
  split
  · exact Ybaf.eqNil w
  · split
    · rw [Ybaf.eqStr, beq_toListBytes]; simp
    · rw [Ybaf.eqFlt, float_self]

theorem eql_bval (t : Int) (b : Bool) (w : World) : (binOp .eql 20 (bval t b) (bval t b)).run Ybaf.prog w = .ok (.bool true) w := by
  unfold bval
  split
  · exact Ybaf.eqNil w
  · split
    · rw [Ybaf.eqBool]; simp
    · rw [Ybaf.eqStr, beq_toListBytes]; simp

set_option maxHeartbeats 400000 in
theorem has_yes (mv : Value) (k : ByteArray) (v : Value) (w : World) (hl : (Instr.lookup 23 mv (.string k) true).run Ybaf.prog w = .ok (.tuple #[v, .bool true]) w) (he : (binOp .eql 20 v v).run Ybaf.prog w = .ok (.bool true) w) (hg : ∀ i j, (eqGuard .eql 20 (.tmp i) (.tmp j) v v).run Ybaf.prog w = .ok () w) :
    Calls Ybaf.prog 18 #[mv, .string k, .bool true, v] w fun e w' => e = .returned (.bool true) ∧ w' = w := by
  go_enter Ybaf.func18, Ybaf.ntmps18
  go_wp2
  go_ret
  exact ⟨rfl, rfl⟩

set_option maxHeartbeats 400000 in
theorem has_no (mv : Value) (k : ByteArray) (v u : Value) (w : World) (hl : (Instr.lookup 23 mv (.string k) true).run Ybaf.prog w = .ok (.tuple #[u, .bool false]) w) :
    Calls Ybaf.prog 18 #[mv, .string k, .bool false, v] w fun e w' => e = .returned (.bool true) ∧ w' = w := by
  go_enter Ybaf.func18, Ybaf.ntmps18
  go_wp2
  go_ret
  exact ⟨rfl, rfl⟩

end Go.Proofs.YbulkegvaFmt
