/-
  DERIVED. The law at an array: small facts for the loop over the references.
-/
import Derived.Test.YbulkegvaFmtRefEq
set_option linter.unusedVariables false
namespace Go.Proofs.YbulkegvaFmt
open Go.RowKit Go.Extern.Stop Go.Stop Go.Extern Go.Maps

theorem Mem.val_form (m : Mem) (b : Nat) : m.val b = .nilIface ∨ ∃ t x, m.val b = .iface t x := by
  unfold Mem.val
  split
  · exact Or.inl rfl
  · split
    · exact Or.inr ⟨_, _, rfl⟩
    · exact Or.inr ⟨_, _, rfl⟩

theorem ref_form (m : Mem) : ∃ a0 a1 a2 a3 c, m.ref = refV a0 a1 a2 a3 c := by
  unfold Mem.ref refV
  split
  · exact ⟨_, _, _, _, _, rfl⟩
  · exact ⟨_, _, _, _, _, rfl⟩

theorem RF.refcell {Ms : List Mem} {br k : Nat} {m : Mem} {w : World} (h : RF Ms br Ms.length 0 #[] w) (hm : Ms[k]? = some m) (c : Nat) (hc : c < 5) (v : Value) (hv : m.ref[c]? = some v) : w.cell? ⟨br, k * 5 + c, none⟩ = some v := by
  obtain ⟨cs, h1, h2, h3, _⟩ := h
  rw [cell_of_row w br _ cs 46 (0, 0) h1]
  exact (h3 k m hm (List.getElem?_eq_some_iff.1 hm).1 c hc).trans hv

end Go.Proofs.YbulkegvaFmt
