/-
  DERIVED. What the law still knows behind the call of ownerReferences.
-/
import Derived.Test.YbulkegvaFmtLawA
set_option linter.unusedVariables false
namespace Go.Proofs.YbulkegvaFmt
open Go.RowKit Go.Extern.Stop Go.Stop Go.Extern Go.Maps

structure A3 (Ms : List Mem) (ab ao : Nat) (bs : Nat → Nat) (vs : Array Value) (f : ByteArray → Option Value) (i0 : Nat) (w wr : World) : Prop where
  held : Held Ms ab ao wr
  mt : MapIs wr w.heap.size f 1
  arr : wr.heap[w.heap.size + 1]? = some (.cells vs 20 (0, 0))
  maps : MapsTo Ms bs i0 wr
  bel : Below w.heap.size w wr

theorem Held.below' {Ms : List Mem} {ab ao : Nat} {w w' : World} (h : Held Ms ab ao w) (hb : Below w.heap.size w w') : Held Ms ab ao w' := h.below hb

theorem A3.below {Ms : List Mem} {ab ao : Nat} {bs : Nat → Nat} {vs : Array Value} {f : ByteArray → Option Value} {i0 : Nat} {w wr wz : World} (h : A3 Ms ab ao bs vs f i0 w wr) (hb : Below wr.heap.size wr wz) : A3 Ms ab ao bs vs f i0 w wz :=
  ⟨h.held.below hb, h.mt.same (hb.block _ h.mt.lt), (hb.block _ (Array.getElem?_eq_some_iff.1 h.arr).1).trans h.arr, fun j m hj hm => (h.maps j m hj hm).same (hb.block _ (h.maps j m hj hm).lt), h.bel.trans (hb.mono h.bel.size)⟩

theorem A3.start {Ms : List Mem} {ab ao n i0 : Nat} {bs : Nat → Nat} {vs : Array Value} {f : ByteArray → Option Value} {w wr w1 w3 : World} (hH : Held Ms ab ao w) (h : L1 Ms w wr n bs vs) (hn : n = Ms.length) (ht : wr.mapTurned w1 w.heap.size)
    (h1 : MapIs w1 w.heap.size f 1) (hk : Kpt Ms bs w1 w3) (hmp : MapsTo Ms bs i0 w3) : A3 Ms ab ao bs vs f i0 w w3 := by
  have g := ht.grown
  have lt : ∀ {j : Nat} {m : Mem}, Ms[j]? = some m → j < n := fun hj => by rw [hn]; exact (List.getElem?_eq_some_iff.1 hj).1
  have hw := h.bel.size
  have nin : ∀ k, k < w.heap.size + 2 → ¬ InMap Ms bs k := by
    rintro k hk ⟨j, m, hj, hm, e⟩
    have := h.lo j (lt hj)
    omega
  have la := (Array.getElem?_eq_some_iff.1 h.arr).1
  have b1 : Below w.heap.size w w1 := h.bel.grown g hw (fun k e => by cases e; exact Nat.le_refl _)
  have b3 : Below w.heap.size w w3 := ⟨hk.os.trans b1.os, hk.tape.trans b1.tape, hk.output.trans b1.output, Nat.le_trans b1.size hk.size, fun k hk' => (hk.block k (Nat.lt_of_lt_of_le hk' b1.size) (nin k (by omega))).trans (b1.block k hk')⟩
  refine ⟨hH.below b3, h1.same (hk.block _ h1.lt (nin _ (by omega))), ?_, hmp, b3⟩
  exact (hk.block _ (Nat.lt_of_lt_of_le la g.size) (nin _ (by omega))).trans ((g.block _ la (by simp)).trans h.arr)

theorem ErrAt.below {w w' : World} {p : Nat} (h : ErrAt w p) (hb : Below w.heap.size w w') : ErrAt w' p := by
  obtain ⟨msg, hm⟩ := h
  exact ⟨msg, (hb.block _ (Array.getElem?_eq_some_iff.1 hm).1).trans hm⟩

theorem RF.below {Ms : List Mem} {br i j : Nat} {r : Array Value} {w w' : World} (h : RF Ms br i j r w) (hb : Below w.heap.size w w') : RF Ms br i j r w' := h.same (hb.block _ h.lt)

/-- The cells of a member, one fact each, for the walk. -/
theorem Held.cells {Ms : List Mem} {ab ao i : Nat} {m : Mem} {w : World} (h : Held Ms ab ao w) (hm : Ms[i]? = some m) (c : Nat) (v : Value) (hv : m.cells[c]? = some v) : w.cell? ⟨ab, ao + i * 13 + c, none⟩ = some v := by
  rw [Nat.add_assoc]
  exact (h i m hm).2 c v hv

end Go.Proofs.YbulkegvaFmt
