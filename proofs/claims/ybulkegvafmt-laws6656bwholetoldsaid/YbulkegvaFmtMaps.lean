/-
  DERIVED. A map keyed by strings whose elements are interface values, told by the function to options that it is and by its size.
-/
import Derived.Test.YbulkegvaFmtRows
import Derived.WalkKit
import Derived.WalkSpells
import Derived.Maps.Own
import Derived.Maps.OwnSet
import Derived.Maps.Views
import Derived.StringKeys
namespace Go.Proofs.YbulkegvaFmt
open Go.RowKit Go.Maps

/-- An element is told by itself. -/
def rel (v : Value) : Option (DataW Value × List MemPlace) := some (.held v, [])

theorem law9 : Keyed Ybaf.prog 9 := string_keyed Ybaf.underlying9
theorem zero20 (w : World) : (zeroValue 20).run Ybaf.prog w = .ok .nilIface w := by kernel_rfl

/-- Block b is a map that holds f k at each key k, and has n entries. -/
def MapIs (w : World) (b : Nat) (f : ByteArray → Option Value) (n : Nat) : Prop :=
  ∃ (D : DataW Value) (m : Nat), w.ownsMap Ybaf.prog 9 rel b m D ∧ Maps.size D = n ∧
    ∀ k : ByteArray, ∀ z, D.atKey (.string k.data.toList) z = (f k).elim z DataW.held

theorem key_of {k : ByteArray} (hk : k.size ≤ maxLen) : keyOf Ybaf.prog 9 (.string k) = some (.string k.data.toList) :=
  WideMaps.keyOf_string_mk Ybaf.underlying9 hk

theorem lit_ne {k x : ByteArray} (h : x ≠ k) : (Lit.string x.data.toList) ≠ Lit.string k.data.toList := by
  intro e
  apply h
  have e1 : x.data.toList = k.data.toList := by simpa using e
  have e2 : x.data = k.data := by
    have := congrArg List.toArray e1
    simpa using this
  cases x; cases k; simp at e2; rw [e2]

theorem tight {w : World} {b m : Nat} {D : DataW Value} (h : w.ownsMap Ybaf.prog 9 rel b m D) : w.ownsMap Ybaf.prog 9 rel b (Maps.size D) D := by
  obtain ⟨es, clock, hb, F, hs, rfl⟩ := h
  refine ⟨es, clock, hb, F, ?_, rfl⟩
  simp [Maps.size, length_sorted]

theorem has_is {D : DataW Value} {k : ByteArray} {o : Option Value} (h : ∀ z, D.atKey (.string k.data.toList) z = o.elim z DataW.held) : Maps.has D (.string k.data.toList) = o.isSome := by
  cases o with
  | none => exact has_false_of_atKey h
  | some v => exact has_true_of_atKey (y := .held v) h

theorem MapIs.made (w : World) : MapIs (w.alloc (.map #[] 0)) w.heap.size (fun _ => none) 0 :=
  ⟨.map [], 0, World.ownsMap_made w _ _ _, rfl, fun _ _ => rfl⟩

theorem MapIs.lt {w : World} {b : Nat} {f : ByteArray → Option Value} {n : Nat} (h : MapIs w b f n) : b < w.heap.size := by
  obtain ⟨D, m, ho, _⟩ := h
  exact ho.lt

theorem MapIs.isMap {w : World} {b : Nat} {f : ByteArray → Option Value} {n : Nat} (h : MapIs w b f n) : ∃ es clk, w.heap[b]? = some (.map es clk) := by
  obtain ⟨D, m, ⟨es, clk, hb, _⟩, _⟩ := h
  exact ⟨es, clk, hb⟩

theorem MapIs.same {w w' : World} {b : Nat} {f : ByteArray → Option Value} {n : Nat} (h : MapIs w b f n) (e : w'.heap[b]? = w.heap[b]?) : MapIs w' b f n := by
  obtain ⟨D, m, ⟨es, clk, hb, F, hs, hD⟩, h2, h3⟩ := h
  exact ⟨D, m, ⟨es, clk, e.trans hb, F, hs, hD⟩, h2, h3⟩

theorem MapIs.congr {w : World} {b : Nat} {f g : ByteArray → Option Value} {n : Nat} (h : MapIs w b f n) (e : ∀ k, f k = g k) : MapIs w b g n := by
  have : f = g := funext e
  rw [← this]; exact h

theorem MapIs.look {w : World} {b : Nat} {f : ByteArray → Option Value} {n : Nat} (h : MapIs w b f n) {k : ByteArray} (hk : k.size ≤ maxLen) :
    (Instr.lookup 23 (.map (some b)) (.string k) false).run Ybaf.prog w = .ok ((f k).getD .nilIface) w := by
  obtain ⟨D, m, ho, _, hf⟩ := h
  obtain ⟨v, ps, hrun, hv⟩ := ho.lookup law9 Ybaf.underlying23 (zero20 w) (zd := .held .nilIface) (zp := []) rfl (key_of hk)
  rw [hf k] at hv
  rw [hrun]
  cases hfk : f k with
  | none => rw [hfk] at hv; simp [rel] at hv; simp [hv.1]
  | some x => rw [hfk] at hv; simp [rel] at hv; simp [hv.1]

theorem MapIs.lookOk {w : World} {b : Nat} {f : ByteArray → Option Value} {n : Nat} (h : MapIs w b f n) {k : ByteArray} (hk : k.size ≤ maxLen) :
    (Instr.lookup 23 (.map (some b)) (.string k) true).run Ybaf.prog w = .ok (.tuple #[(f k).getD .nilIface, .bool (f k).isSome]) w := by
  obtain ⟨D, m, ho, _, hf⟩ := h
  obtain ⟨v, ps, hrun, hv⟩ := ho.look_ok law9 Ybaf.underlying23 (zero20 w) (zd := .held .nilIface) (zp := []) rfl (key_of hk)
  rw [has_is (hf k)] at hrun
  rw [hf k] at hv
  rw [hrun]
  cases hfk : f k with
  | none => rw [hfk] at hv; simp [rel] at hv; simp [hv.1]
  | some x => rw [hfk] at hv; simp [rel] at hv; simp [hv.1]

theorem MapIs.len {w : World} {b : Nat} {f : ByteArray → Option Value} {n : Nat} (h : MapIs w b f n) (ty : TypeId) :
    (Builtin.len_ #[23] ty #[.map (some b)]).run Ybaf.prog w = .ok (.int .i64 (n : Int)) w := by
  obtain ⟨D, m, ho, hs, _⟩ := h
  rw [ho.len Ybaf.underlying23, hs]

theorem MapIs.store {w : World} {b : Nat} {f : ByteArray → Option Value} {n : Nat} (h : MapIs w b f n) {k : ByteArray} (hk : k.size ≤ maxLen) (hn : n < 100) (hf0 : f k = none) (v : Value) :
    ∃ w', (Instr.mapUpdate 23 (.map (some b)) (.string k) v).run Ybaf.prog w = .ok () w' ∧ MapIs w' b (fun x => if x = k then some v else f x) (n + 1) ∧ w.mapTurned w' b := by
  obtain ⟨D, m, ho0, hs, hf⟩ := h
  have ho := tight ho0
  obtain ⟨w', hrun, hown, ht⟩ := ho.store law9 Ybaf.underlying23 (by rw [hs]; unfold maxLen; omega) (val := v) (d := .held v) (ps := []) (key_of hk) rfl
  refine ⟨w', hrun, ⟨_, _, hown, ?_, ?_⟩, ht⟩
  · rw [size_put (ho.tidy law9), has_is (hf k), hf0, hs]; simp
  · intro x z
    by_cases hx : x = k
    · subst hx
      rw [atKey_put_same ho.isMap (by simp [WideAt.IsKeyLit])]; simp
    · rw [atKey_put_other (lit_ne hx), hf x]; simp [hx]

/-- One fewer where the key was there. -/
def less (o : Option Value) (n : Nat) : Nat := if o.isSome then n - 1 else n

theorem MapIs.drop {w : World} {b : Nat} {f : ByteArray → Option Value} {n : Nat} (h : MapIs w b f n) {k : ByteArray} (hk : k.size ≤ maxLen) (ty : TypeId) :
    ∃ w', (Builtin.delete_ #[23, 9] ty #[.map (some b), .string k]).run Ybaf.prog w = .ok (.tuple #[]) w' ∧ MapIs w' b (fun x => if x = k then none else f x) (less (f k) n) ∧ w.mapTurned w' b := by
  obtain ⟨D, m, ho, hs, hf⟩ := h
  obtain ⟨w', hrun, hown, ht⟩ := ho.drop law9 Ybaf.underlying23 (key_of hk) ty
  refine ⟨w', hrun, ⟨_, _, hown, ?_, ?_⟩, ht⟩
  · have e1 := size_del (k := .string k.data.toList) (ho.tidy law9)
    rw [has_is (hf k), hs] at e1
    unfold less
    split at e1 <;> simp_all <;> omega
  · intro x z
    by_cases hx : x = k
    · subst hx
      rw [atKey_del_same]; simp
    · rw [atKey_del_other (lit_ne hx), hf x]; simp [hx]

end Go.Proofs.YbulkegvaFmt
