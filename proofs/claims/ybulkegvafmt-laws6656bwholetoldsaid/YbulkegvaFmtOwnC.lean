/-
  DERIVED. The inner loop of ownerReferences: what it keeps.
-/
import Derived.Test.YbulkegvaFmtOwnA
import Derived.Laws.Concat
set_option linter.unusedVariables false
namespace Go.Proofs.YbulkegvaFmt
open Go.RowKit Go.Extern.Stop Go.Stop Go.Extern Go.Maps

def sbCells (br i : Nat) : Array Value := #[.string ⟨#[97, 112, 105, 86, 101, 114, 115, 105, 111, 110]⟩, .pointer (some ⟨br, i * 5, none⟩), .string ⟨#[107, 105, 110, 100]⟩, .pointer (some ⟨br, i * 5 + 1, none⟩),
  .string ⟨#[110, 97, 109, 101]⟩, .pointer (some ⟨br, i * 5 + 2, none⟩), .string ⟨#[117, 105, 100]⟩, .pointer (some ⟨br, i * 5 + 3, none⟩)]

/-- The inner loop's world: nothing below B has turned since wr; j fields of row i are laid. -/
structure IN (Ms : List Mem) (B br i sb j : Nat) (r : Array Value) (wr wx : World) : Prop where
  bel : Below B wr wx
  rf : RF Ms br i j r wx
  sb : wx.heap[sb]? = some (.cells (sbCells br i) 64 (0, 0))
  lo : B ≤ br
  le : B ≤ wx.heap.size

theorem IN.alloc {Ms : List Mem} {B br i sb j : Nat} {r : Array Value} {wr wx : World} (h : IN Ms B br i sb j r wr wx) (o : Obj) : IN Ms B br i sb j r wr (wx.alloc o) :=
  ⟨h.bel.alloc h.le _, h.rf.same (Below.heap_alloc _ _ _ h.rf.lt), (Below.heap_alloc _ _ _ (Array.getElem?_eq_some_iff.1 h.sb).1).trans h.sb, h.lo, by have := h.le; simp; omega⟩

theorem IN.drew {Ms : List Mem} {B br i sb j : Nat} {r : Array Value} {wr wx : World} (h : IN Ms B br i sb j r wr wx) : IN Ms B br i sb j r wr wx.drew :=
  ⟨h.bel.drew, h.rf.same rfl, h.sb, h.lo, h.le⟩

theorem IN.below {Ms : List Mem} {B br i sb j : Nat} {r : Array Value} {wr wx wy : World} (h : IN Ms B br i sb j r wr wx) (hb : Below wx.heap.size wx wy) : IN Ms B br i sb j r wr wy :=
  ⟨h.bel.trans (hb.mono h.le), h.rf.same (hb.block _ h.rf.lt), (hb.block _ (Array.getElem?_eq_some_iff.1 h.sb).1).trans h.sb, h.lo, Nat.le_trans h.le hb.size⟩

theorem IN.set {Ms : List Mem} {B br i sb j : Nat} {r : Array Value} {wr wx : World} (h : IN Ms B br i sb j r wr wx) (hi : i < Ms.length) (hj : j < 5) (v : Value) (hv : r[j]? = some v) : IN Ms B br i sb (j + 1) r wr (wx.setCell ⟨br, i * 5 + j, none⟩ v) := by
  have hne : sb ≠ br := by
    intro e
    obtain ⟨cs, h1, _⟩ := h.rf
    have := h.sb
    rw [e, h1] at this
    simp at this
  exact ⟨h.bel.setCell h.lo _, h.rf.set hi hj v hv, (Below.heap_setCell _ _ _ _ hne).trans h.sb, h.lo, by simpa [World.setCell] using h.le⟩

/-- A store into the row, whatever it is. -/
theorem IN.spoil {Ms : List Mem} {B br i sb j : Nat} {r : Array Value} {wr wx : World} (h : IN Ms B br i sb j r wr wx) (c : Nat) (v : Value) : Below B wr (wx.setCell ⟨br, c, none⟩ v) :=
  h.bel.setCell h.lo _

theorem ErrAt.set {w : World} {p br c : Nat} {v : Value} (h : ErrAt w p) (hne : p ≠ br) : ErrAt (w.setCell ⟨br, c, none⟩ v) p := by
  obtain ⟨msg, hm⟩ := h
  exact ⟨msg, (Below.heap_setCell _ _ _ _ hne).trans hm⟩
theorem ErrAt.drew {w : World} {p : Nat} (h : ErrAt w p) : ErrAt w.drew p := h

theorem IN.cell {Ms : List Mem} {B br i sb j : Nat} {r : Array Value} {wr wx : World} (h : IN Ms B br i sb j r wr wx) (hi : i < Ms.length) (c : Nat) (hc : c < 5) :
    ∃ u, wx.cell? ⟨br, i * 5 + c, none⟩ = some u ∧ (∀ o, (wx.alloc o).cell? ⟨br, i * 5 + c, none⟩ = some u) ∧ wx.frozen? ⟨br, i * 5 + c, none⟩ = false ∧ ∀ o, (wx.alloc o).frozen? ⟨br, i * 5 + c, none⟩ = false := by
  obtain ⟨⟨u, h1⟩, h2⟩ := h.rf.cell hi c hc
  refine ⟨u, h1, fun o => ?_, h2, fun o => ?_⟩
  · exact (World.cell?_alloc_past _ _ _ h.rf.lt).trans h1
  · exact (World.frozen?_alloc_old _ _ _ (Nat.ne_of_lt h.rf.lt)).trans h2

/-- The texts that name a field are short. -/
theorem cat_any (a b : ByteArray) (ha : a.size ≤ 200) (hb : b.size ≤ 100) (w : World) : (Op.stringOp .add a b).run Ybaf.prog w = .ok (.string (a ++ b)) w :=
  run_string_add_sum w a b (by omega)
theorem cat_dot (a : ByteArray) (ha : a.size ≤ 100) (w : World) : (Op.stringOp .add a ⟨#[46]⟩).run Ybaf.prog w = .ok (.string (a ++ ⟨#[46]⟩)) w :=
  cat_any a _ (by omega) (by decide) w
theorem size_dot (a : ByteArray) (ha : a.size ≤ 100) : (a ++ ⟨#[46]⟩).size ≤ 200 := by
  rw [ByteArray.size_append]
  have : (ByteArray.mk #[46]).size = 1 := rfl
  omega

end Go.Proofs.YbulkegvaFmt
