/-
  DERIVED. The keys, the map that a member is built into, told as a function to options; its size.
-/
import Derived.Test.YbulkegvaFmtOmit
set_option linter.unusedVariables false
namespace Go.Proofs.YbulkegvaFmt
open Go.RowKit Go.Extern.Stop Go.Stop Go.Extern Go.Maps

def K0 : ByteArray := ⟨#[97, 112, 105, 86, 101, 114, 115, 105, 111, 110]⟩
def K1 : ByteArray := ⟨#[107, 105, 110, 100]⟩
def K2 : ByteArray := ⟨#[110, 97, 109, 101]⟩
def K3 : ByteArray := ⟨#[117, 105, 100]⟩
def KC : ByteArray := ⟨#[99, 111, 110, 116, 114, 111, 108, 108, 101, 114]⟩
def KB : ByteArray := ⟨#[98, 108, 111, 99, 107, 79, 119, 110, 101, 114, 68, 101, 108, 101, 116, 105, 111, 110]⟩
def KO : ByteArray := ⟨#[111, 119, 110, 101, 114, 82, 101, 102, 101, 114, 101, 110, 99, 101, 115]⟩

theorem ba_ne {a b : ByteArray} (h : (a.data.toList == b.data.toList) = false) : a ≠ b := by
  intro e
  subst e
  simp at h

theorem k10 : K1 ≠ K0 := ba_ne (by decide)
theorem k20 : K2 ≠ K0 := ba_ne (by decide)
theorem k21 : K2 ≠ K1 := ba_ne (by decide)
theorem k30 : K3 ≠ K0 := ba_ne (by decide)
theorem k31 : K3 ≠ K1 := ba_ne (by decide)
theorem k32 : K3 ≠ K2 := ba_ne (by decide)
theorem kc0 : KC ≠ K0 := ba_ne (by decide)
theorem kc1 : KC ≠ K1 := ba_ne (by decide)
theorem kc2 : KC ≠ K2 := ba_ne (by decide)
theorem kc3 : KC ≠ K3 := ba_ne (by decide)
theorem kb0 : KB ≠ K0 := ba_ne (by decide)
theorem kb1 : KB ≠ K1 := ba_ne (by decide)
theorem kb2 : KB ≠ K2 := ba_ne (by decide)
theorem kb3 : KB ≠ K3 := ba_ne (by decide)
theorem kbc : KB ≠ KC := ba_ne (by decide)

theorem small (a : Array UInt8) (h : a.size ≤ 100) : (ByteArray.mk a).size ≤ maxLen := by
  show a.size ≤ maxLen
  unfold maxLen; omega
theorem sK0 : K0.size ≤ maxLen := small _ (by decide)
theorem sK1 : K1.size ≤ maxLen := small _ (by decide)
theorem sK2 : K2.size ≤ maxLen := small _ (by decide)
theorem sK3 : K3.size ≤ maxLen := small _ (by decide)
theorem sKC : KC.size ≤ maxLen := small _ (by decide)
theorem sKB : KB.size ≤ maxLen := small _ (by decide)
theorem sKO : KO.size ≤ maxLen := small _ (by decide)

/-- A function to options, turned at one key. -/
def put (k : ByteArray) (e : Option Value) (f : ByteArray → Option Value) : ByteArray → Option Value := fun x => if x = k then e else f x
def cn (e : Option Value) : Nat := if e.isSome then 1 else 0
theorem put_same (k : ByteArray) (e : Option Value) (f : ByteArray → Option Value) : put k e f k = e := by simp [put]
theorem put_other {k x : ByteArray} (h : x ≠ k) (e : Option Value) (f : ByteArray → Option Value) : put k e f x = f x := by simp [put, h]

def sent (t : Int) (s : ByteArray) : Option Value := if t.tmod 4 = 0 then none else some (sval (t.tmod 4) s)
def bent (done : Bool) (t : Int) (b : Bool) : Option Value := if t.tmod 4 = 0 then none else if done = true ∧ t.tmod 4 = 1 then none else some (bval (t.tmod 4) b)

namespace Mem
variable (m : Mem)
def f0 : ByteArray → Option Value := fun _ => none
def f1 := put K0 (sent m.t0 m.s0) f0
def f2 := put K1 (sent m.t1 m.s1) m.f1
def f3 := put K2 (sent m.t2 m.s2) m.f2
def f4 := put K3 (sent m.t3 m.s3) m.f3
def f5 (done : Bool) := put KC (bent done m.ct m.cb) m.f4
def f6 (d1 d2 : Bool) := put KB (bent d2 m.bt m.bb) (m.f5 d1)
def c1 := 0 + cn (sent m.t0 m.s0)
def c2 := m.c1 + cn (sent m.t1 m.s1)
def c3 := m.c2 + cn (sent m.t2 m.s2)
def c4 := m.c3 + cn (sent m.t3 m.s3)
def c5 (done : Bool) := m.c4 + cn (bent done m.ct m.cb)
def c6 (d1 d2 : Bool) := m.c5 d1 + cn (bent d2 m.bt m.bb)

theorem n1 : m.f1 K1 = none := by unfold f1; rw [put_other k10]; rfl
theorem n2 : m.f2 K2 = none := by unfold f2 f1; rw [put_other k21, put_other k20]; rfl
theorem n3 : m.f3 K3 = none := by unfold f3 f2 f1; rw [put_other k32, put_other k31, put_other k30]; rfl
theorem n4 : m.f4 KC = none := by unfold f4 f3 f2 f1; rw [put_other kc3, put_other kc2, put_other kc1, put_other kc0]; rfl
theorem n5 (d : Bool) : m.f5 d KB = none := by unfold f5 f4 f3 f2 f1; rw [put_other kbc, put_other kb3, put_other kb2, put_other kb1, put_other kb0]; rfl

theorem at0 (d1 d2 : Bool) : m.f6 d1 d2 K0 = sent m.t0 m.s0 := by unfold f6 f5 f4 f3 f2 f1; rw [put_other kb0.symm, put_other kc0.symm, put_other k30.symm, put_other k20.symm, put_other k10.symm, put_same]
theorem at1 (d1 d2 : Bool) : m.f6 d1 d2 K1 = sent m.t1 m.s1 := by unfold f6 f5 f4 f3 f2; rw [put_other kb1.symm, put_other kc1.symm, put_other k31.symm, put_other k21.symm, put_same]
theorem at2 (d1 d2 : Bool) : m.f6 d1 d2 K2 = sent m.t2 m.s2 := by unfold f6 f5 f4 f3; rw [put_other kb2.symm, put_other kc2.symm, put_other k32.symm, put_same]
theorem at3 (d1 d2 : Bool) : m.f6 d1 d2 K3 = sent m.t3 m.s3 := by unfold f6 f5 f4; rw [put_other kb3.symm, put_other kc3.symm, put_same]
theorem atC (d1 d2 : Bool) : m.f6 d1 d2 KC = bent d1 m.ct m.cb := by unfold f6 f5; rw [put_other kbc.symm, put_same]
theorem atB (d1 d2 : Bool) : m.f6 d1 d2 KB = bent d2 m.bt m.bb := by unfold f6; rw [put_same]
end Mem

theorem cn_le (e : Option Value) : cn e ≤ 1 := by unfold cn; split <;> omega
theorem Mem.c4_le (m : Mem) : m.c4 ≤ 4 := by
  have a := cn_le (sent m.t0 m.s0); have b := cn_le (sent m.t1 m.s1); have c := cn_le (sent m.t2 m.s2); have d := cn_le (sent m.t3 m.s3)
  unfold Mem.c4 Mem.c3 Mem.c2 Mem.c1; omega
theorem Mem.c6_le (m : Mem) (d1 d2 : Bool) : m.c6 d1 d2 ≤ 6 := by
  have a := m.c4_le; have b := cn_le (bent d1 m.ct m.cb); have c := cn_le (bent d2 m.bt m.bb)
  unfold Mem.c6 Mem.c5; omega

/-- A key that is not laid. -/
theorem MapIs.skip {w : World} {b : Nat} {f : ByteArray → Option Value} {n : Nat} (h : MapIs w b f n) {k : ByteArray} {e : Option Value} (he : e = none) (hf : f k = none) : MapIs w b (put k e f) (n + cn e) := by
  subst he
  refine (h.congr fun x => ?_)
  unfold put
  split
  · rename_i hx; subst hx; exact hf
  · rfl

/-- A key that is. -/
theorem MapIs.laid {w w' : World} {b : Nat} {f : ByteArray → Option Value} {n : Nat} {k : ByteArray} {e : Option Value} {v : Value} (he : e = some v) (h : MapIs w' b (fun x => if x = k then some v else f x) (n + 1)) : MapIs w' b (put k e f) (n + cn e) := by
  subst he
  exact h

end Go.Proofs.YbulkegvaFmt
