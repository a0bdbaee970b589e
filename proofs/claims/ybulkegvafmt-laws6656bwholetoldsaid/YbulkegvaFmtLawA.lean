/-
  DERIVED. The law at an array: the members are built. What the first loop keeps.
-/
import Derived.Test.YbulkegvaFmtOwnE
import Derived.Test.YbulkegvaFmtLaw0
set_option linter.unusedVariables false
namespace Go.Proofs.YbulkegvaFmt
open Go.RowKit Go.Extern.Stop Go.Stop Go.Extern Go.Maps

/-- The members as the argument's memory holds them. -/
def Held (Ms : List Mem) (ab ao : Nat) (w : World) : Prop :=
  ∀ (i : Nat) (m : Mem), Ms[i]? = some m → ab < w.heap.size ∧ ∀ (c : Nat) (v : Value), m.cells[c]? = some v → w.cell? ⟨ab, ao + (i * 13 + c), none⟩ = some v

theorem Held.below {Ms : List Mem} {ab ao : Nat} {w w' : World} (h : Held Ms ab ao w) (hb : Below w.heap.size w w') : Held Ms ab ao w' :=
  fun i m hm => ⟨Nat.lt_of_lt_of_le (h i m hm).1 hb.size, fun c v hv => (hb.cell (p := ⟨ab, ao + (i * 13 + c), none⟩) (h i m hm).1).trans ((h i m hm).2 c v hv)⟩

theorem load_mem {Ms : List Mem} {ab ao i : Nat} {m : Mem} {w : World} (h : Held Ms ab ao w) (hm : Ms[i]? = some m) :
    (loadVar 30 ⟨ab, ao + i * 13, none⟩).run Ybaf.prog w = .ok (.agg m.cells) w := by
  have hl : (loadCells ⟨ab, ao + i * 13, none⟩ m.cells.toList.length).run Ybaf.prog w = .ok m.cells.toList.toArray w :=
    run_loadCells_list (P := Ybaf.prog) w ⟨ab, ao + i * 13, none⟩ m.cells.toList (fun j v hv => by
      have hadd : (⟨ab, ao + i * 13, none⟩ : Addr).add j = ⟨ab, ao + (i * 13 + j), none⟩ := by unfold Addr.add; split <;> simp_all <;> omega
      rw [hadd]
      exact (h i m hm).2 j v (by simpa using hv))
  have hz : (isAgg 30).run Ybaf.prog w = .ok true w := by kernel_rfl
  have e13 : m.cells.toList.length = 13 := rfl
  rw [e13] at hl
  simp [loadVar, Sem.run_bind, hz, hl]

/-- The first loop's world. -/
structure L1 (Ms : List Mem) (w wr : World) (i : Nat) (bs : Nat → Nat) (vs : Array Value) : Prop where
  bel : Below w.heap.size w wr
  mt : MapIs wr w.heap.size (fun _ => none) 0
  arr : wr.heap[w.heap.size + 1]? = some (.cells vs 20 (0, 0))
  size : vs.size = Ms.length
  vals : ∀ (j : Nat) (m : Mem), Ms[j]? = some m → j < i → vs[j]? = some (m.val (bs j))
  maps : ∀ (j : Nat) (m : Mem), Ms[j]? = some m → j < i → m.isMap → MapIs wr (bs j) (m.f6 false false) (m.c6 false false)
  lo : ∀ j, j < i → w.heap.size + 2 ≤ bs j ∧ bs j < wr.heap.size
  inj : ∀ a b, a < i → b < i → a ≠ b → bs a ≠ bs b

theorem L1.start (Ms : List Mem) (n : Nat) (w : World) (hn : n = Ms.length) : L1 Ms w ((w.alloc (.map #[] 0)).alloc (.cells (madeCells #[.nilIface] n) 20)) 0 (fun _ => 0) (madeCells #[.nilIface] n) := by
  refine ⟨((Below.refl _ w).alloc (Nat.le_refl _) _).alloc (by simp) _, (MapIs.made w).same (Below.heap_alloc _ _ _ (by simp)), ?_, ?_, fun j m _ h => by omega, fun j m _ h => by omega, fun j h => by omega, fun a b h => by omega⟩
  · have := heap_alloc_new (w.alloc (.map #[] 0)) (.cells (madeCells #[.nilIface] n) 20)
    simpa using this
  · rw [size_madeCells, hn]

theorem L1.next {Ms : List Mem} {w wr w4 : World} {i b : Nat} {bs : Nat → Nat} {vs : Array Value} {m : Mem} (h : L1 Ms w wr i bs vs) (hm : Ms[i]? = some m) (hb : wr.heap.size ≤ b) (hb4 : b < w4.heap.size)
    (hmp : m.isMap → MapIs w4 b (m.f6 false false) (m.c6 false false)) (bel : Below wr.heap.size wr w4) :
    L1 Ms w (w4.setCell ⟨w.heap.size + 1, i, none⟩ (m.val b)) (i + 1) (fun j => if j = i then b else bs j) (vs.setIfInBounds i (m.val b)) := by
  have hlt : i < Ms.length := (List.getElem?_eq_some_iff.1 hm).1
  have ha : w.heap.size + 1 < wr.heap.size := (Array.getElem?_eq_some_iff.1 h.arr).1
  have harr : w4.heap[w.heap.size + 1]? = some (.cells vs 20 (0, 0)) := (bel.block _ ha).trans h.arr
  have hoth : ∀ k, k ≠ w.heap.size + 1 → (w4.setCell ⟨w.heap.size + 1, i, none⟩ (m.val b)).heap[k]? = w4.heap[k]? := fun k hk => Below.heap_setCell _ _ _ _ hk
  have hsz : (w4.setCell ⟨w.heap.size + 1, i, none⟩ (m.val b)).heap.size = w4.heap.size := by simp [World.setCell]
  refine ⟨(h.bel.trans (bel.mono h.bel.size)).setCell (by show w.heap.size ≤ w.heap.size + 1; omega) _, ?_, heap_setCell_same harr _ _, by simpa using h.size, ?_, ?_, ?_, ?_⟩
  · exact h.mt.same ((hoth _ (by omega)).trans (bel.block _ h.mt.lt))
  · intro j mj hj hji
    by_cases e : j = i
    · subst e
      rw [hm] at hj; cases hj
      rw [Array.getElem?_setIfInBounds, if_pos rfl, if_pos (by rw [h.size]; exact hlt)]
      simp
    · rw [Array.getElem?_setIfInBounds, if_neg (fun h => e h.symm)]
      simp only [e, if_false]
      exact h.vals j mj hj (by omega)
  · intro j mj hj hji hjm
    by_cases e : j = i
    · subst e
      rw [hm] at hj; cases hj
      simp only [if_true]
      exact (hmp hjm).same (hoth b (by omega))
    · simp only [e, if_false]
      have h1 := h.maps j mj hj (by omega) hjm
      have h2 := h.lo j (by omega)
      exact h1.same ((hoth _ (by omega)).trans (bel.block _ h1.lt))
  · intro j hj
    rw [hsz]
    have hw := h.bel.size
    by_cases e : j = i
    · simp only [e, if_true]; omega
    · simp only [e, if_false]
      have h2 := h.lo j (by omega)
      have h3 := bel.size
      omega
  · intro a c ha' hc hne
    have la : a ≠ i → bs a < wr.heap.size := fun e => (h.lo a (by omega)).2
    have lc : c ≠ i → bs c < wr.heap.size := fun e => (h.lo c (by omega)).2
    by_cases e1 : a = i <;> by_cases e2 : c = i <;> simp only [e1, e2, if_true, if_false]
    · omega
    · have := lc e2; omega
    · have := la e1; omega
    · exact h.inj a c (by omega) (by omega) hne

theorem L1.slot {Ms : List Mem} {w wr w4 : World} {i : Nat} {bs : Nat → Nat} {vs : Array Value} {m : Mem} (h : L1 Ms w wr i bs vs) (hm : Ms[i]? = some m) (bel : Below wr.heap.size wr w4) :
    w4.cell? ⟨w.heap.size + 1, i, none⟩ = some (vs.getD i .nilIface) ∧ w4.frozen? ⟨w.heap.size + 1, i, none⟩ = false := by
  have hlt : i < vs.size := by rw [h.size]; exact (List.getElem?_eq_some_iff.1 hm).1
  have harr : w4.heap[w.heap.size + 1]? = some (.cells vs 20 (0, 0)) := (bel.block _ (Array.getElem?_eq_some_iff.1 h.arr).1).trans h.arr
  refine ⟨cell_at harr ?_, by simp [World.frozen?, harr]⟩
  rw [Array.getElem?_eq_getElem hlt]
  simp [Array.getD, hlt]

theorem L1.ready {F : Interp} {Ms : List Mem} {w wr w1 : World} {n : Nat} {bs : Nat → Nat} {vs : Array Value} (h : L1 Ms w wr n bs vs) (ht : wr.mapTurned w1 w.heap.size) (hn : n = Ms.length) (hF : F.answers w.tape)
    (htx : ∀ i : Nat, i ≤ 65536 → (FmtStop.textOf (F "fmt.Sprintf" [[109, 101, 116, 97, 100, 97, 116, 97, 46, 111, 119, 110, 101, 114, 82, 101, 102, 101, 114, 101, 110, 99, 101, 115, 91, 37, 100, 93], Ybaf.shape3, Go.Extern.Stop.digits 8 ((i : Int) % 18446744073709551616).toNat] 0)).size ≤ 100)
    (hok : ∀ (i : Nat) (m : Mem), Ms[i]? = some m → m.Ok) (hn65 : n ≤ 65536) : OH F Ms bs (w.heap.size + 1) vs w1 := by
  have g := ht.grown
  have lt : ∀ {j : Nat} {m : Mem}, Ms[j]? = some m → j < n := fun hj => by rw [hn]; exact (List.getElem?_eq_some_iff.1 hj).1
  refine ⟨by rw [g.tape, h.bel.tape]; exact hF, htx, by omega, ?_, fun i m hm => h.vals i m hm (lt hm), hok, ?_, ?_⟩
  · exact (g.block _ (Array.getElem?_eq_some_iff.1 h.arr).1 (by simp)).trans h.arr
  · intro j m hj hjm
    have e1 : decide (j < 0) = false := by simp
    rw [e1]
    have h1 := h.maps j m hj (lt hj) hjm
    have h2 := h.lo j (lt hj)
    exact h1.same (g.block _ h1.lt (by simp; omega))
  · intro i j mi mj hi hj _ _ hne
    exact h.inj i j (lt hi) (lt hj) hne

end Go.Proofs.YbulkegvaFmt
