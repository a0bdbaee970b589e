/-
  '(*zzs6653aconn).Close': what it logs, and what it leaves.
-/
import Derived.Test.YbulkegtkProg
import Derived.WalkKit
import Derived.WalkSpells
import Derived.StillTactics
import Derived.OwnWalk
import Derived.Laws.Pointers
import Derived.Deep.RegionHeld3
import Derived.BigRegion
import Derived.Deep.RegionLaw
import Derived.Deep.DeepCutAuto
import Derived.Deep.AppendLies
import Derived.Deep.DrawnRows
import Derived.KernelRfl
namespace Go.Proofs.Ybulkegtk
open Go.RowKit
set_option linter.unusedVariables false
attribute [local go_sem ↓] Go.wp_at_zero Go.wp_at_succ

theorem info21 : (Yba.prog.info? 21).map (fun i => (i.zero, i.size, i.bytes)) = some (some (.int .i32 0), 1, 4) := by kernel_rfl

/-- w' is w with new blocks, and with writes to block L and to the row alone. -/
structure Kept2 (w w' : World) (L : Nat) (row : Option Nat) : Prop where
  os : w'.os = w.os
  tape : w'.tape = w.tape
  output : w'.output = w.output
  size : w.heap.size ≤ w'.heap.size
  block : ∀ k, k < w.heap.size → k ≠ L → some k ≠ row → w'.heap[k]? = w.heap[k]?

theorem cell_of_block {w : World} {b o : Nat} {cs : Array Value} {t : TypeId} {fr : Nat × Nat} (h : w.heap[b]? = some (.cells cs t fr)) : w.cell? ⟨b, o, none⟩ = cs[o]? := by
  simp [World.cell?, h]
theorem free_of_block {w : World} {b o : Nat} {cs : Array Value} {t : TypeId} (h : w.heap[b]? = some (.cells cs t (0, 0))) : w.frozen? ⟨b, o, none⟩ = false := by
  simp [World.frozen?, h]
theorem lt_of_block {w : World} {b : Nat} {o : Obj} (h : w.heap[b]? = some o) : b < w.heap.size := (Array.getElem?_eq_some_iff.1 h).1

/-- A block of another element type is not the row. -/
theorem row_ne {w : World} {base e size n : Nat} {v : Value} {xs : List Value} (h : w.ownsRow base e size v n xs) {b : Nat} {cs : Array Value} {t : TypeId} {fr : Nat × Nat}
    (hb : w.heap[b]? = some (.cells cs t fr)) (hne : t ≠ e) : v.ownBlock ≠ some b := by
  intro hv
  rcases h.2 with ⟨rfl, _⟩ | ⟨g, cap, cur, rfl, _, hg, _⟩
  · simp [Value.ownBlock] at hv
  · simp [Value.ownBlock] at hv
    subst hv
    rw [hg] at hb
    simp at hb
    exact hne hb.2.1.symm

/-- Behind one Close: the log's variable holds a slice that owns what was logged and id. -/
def Logged (w : World) (L base : Nat) (lv : Value) (m : Nat) (xs : List Value) (id : Int) (w' : World) : Prop :=
  ∃ lv', w'.heap[L]? = some (.cells #[lv'] 23 (0, 0)) ∧ w'.ownsRow base 21 1 lv' (m + 1) (xs ++ [.int .i32 id]) ∧ Kept2 w w' L lv.ownBlock

theorem heap_setCell_at {w : World} {b : Nat} {v x : Value} {t : TypeId} (h : w.heap[b]? = some (.cells #[x] t (0, 0))) : (w.setCell ⟨b, 0, none⟩ v).heap[b]? = some (.cells #[v] t (0, 0)) := by
  simp [World.setCell, Array.getElem?_modify, h]

theorem logged_of {w : World} {L base : Nat} {lv : Value} {m : Nat} {xs : List Value} {id : Int} {w1 : World} {o : Obj} {v : Value} (lL : L < w.heap.size) (hL : w.heap[L]? = some (.cells #[lv] 23 (0, 0))) (aL : lv.ownBlock ≠ some L)
    (hown1 : w1.ownsRow base 21 1 v (m + 1) (xs ++ [.int .i32 id])) (hgrow : (w.alloc o).drew.grownBy w1 lv.ownBlock) :
    Logged w L base lv m xs id (w1.setCell ⟨L, 0, none⟩ v) := by
  have h1 : w1.heap[L]? = some (.cells #[lv] 23 (0, 0)) := by
    rw [hgrow.block L (by simp; omega) (Ne.symm aL)]; exact (Below.heap_alloc w o L lL).trans hL
  refine ⟨v, heap_setCell_at h1, ?_, ?_⟩
  · have hne : v.ownBlock ≠ some L := row_ne hown1 h1 (by decide)
    refine ⟨hown1.1, ?_⟩
    rcases hown1.2 with h2 | ⟨g, cap, cur, hv, hg, hh, r⟩
    · exact Or.inl h2
    · refine Or.inr ⟨g, cap, cur, hv, hg, ?_, r⟩
      rw [Below.heap_setCell _ _ _ _ (by intro e; apply hne; rw [hv]; simp [Value.ownBlock]; exact e)]
      exact hh
  · refine ⟨hgrow.os, hgrow.tape, hgrow.output, ?_, ?_⟩
    · have := hgrow.size; simp [World.setCell] at this ⊢; omega
    · intro k hk hkL hkr
      rw [Below.heap_setCell _ _ _ _ hkL, hgrow.block k (by simp; omega) hkr]; exact Below.heap_alloc w o k hk

theorem Logged.alloc {w : World} {L base : Nat} {lv : Value} {m : Nat} {xs : List Value} {id : Int} {w' : World} (h : Logged w L base lv m xs id w') (o : Obj) : Logged w L base lv m xs id (w'.alloc o) := by
  obtain ⟨lv', h1, h2, h3⟩ := h
  refine ⟨lv', (Below.heap_alloc w' o L (lt_of_block h1)).trans h1, h2.alloc o, h3.os, h3.tape, h3.output, ?_, ?_⟩
  · have := h3.size; simp; omega
  · intro k hk hkL hkr
    rw [Below.heap_alloc w' o k (by have := h3.size; omega)]
    exact h3.block k hk hkL hkr

set_option maxRecDepth 100000 in
set_option maxHeartbeats 3200000 in
theorem conn_close (q L base : Nat) (id : Int) (b : Bool) (p0 lv : Value) (m : Nat) (xs : List Value) (w : World)
    (hq : w.heap[q]? = some (.cells #[p0, .int .i32 id, .bool b, .pointer (some ⟨L, 0, none⟩)] 30 (0, 0)))
    (hL : w.heap[L]? = some (.cells #[lv] 23 (0, 0))) (hown : w.ownsRow base 21 1 lv m xs) (hbase : base ≤ w.heap.size) (hm : m ≤ 100000) :
    Calls Yba.prog 41 #[.pointer (some ⟨q, 0, none⟩)] w fun e w' => (∃ v, e = .returned v) ∧ Logged w L base lv m xs id w' := by
  obtain ⟨i0, hi0, hz0, hz1, hz2⟩ := info_parts info21
  have c1 : w.cell? ⟨q, 1, none⟩ = some (.int .i32 id) := by rw [cell_of_block hq]; rfl
  have c2 : w.cell? ⟨q, 2, none⟩ = some (.bool b) := by rw [cell_of_block hq]; rfl
  have c3 : w.cell? ⟨q, 3, none⟩ = some (.pointer (some ⟨L, 0, none⟩)) := by rw [cell_of_block hq]; rfl
  have cL : w.cell? ⟨L, 0, none⟩ = some lv := by rw [cell_of_block hL]; rfl
  have fL : w.frozen? ⟨L, 0, none⟩ = false := free_of_block hL
  have lq := lt_of_block hq
  have lL := lt_of_block hL
  have aq : lv.ownBlock ≠ some q := row_ne hown hq (by decide)
  have aL : lv.ownBlock ≠ some L := row_ne hown hL (by decide)
  have qL : q ≠ L := by intro e; subst e; rw [hq] at hL; simp at hL
  have fA : ∀ o, (w.alloc o).frozen? ⟨L, 0, none⟩ = false := fun o => (World.frozen?_alloc_old _ _ _ (by simp; omega)).trans fL
  have cA : ∀ o, (w.alloc o).cell? ⟨L, 0, none⟩ = some lv := fun o => (World.cell?_alloc_past _ _ _ lL).trans cL
  have qA : ∀ o, (w.alloc o).cell? ⟨q, 2, none⟩ = some (.bool b) := fun o => (World.cell?_alloc_past _ _ _ lq).trans c2
  have q3A : ∀ o, (w.alloc o).cell? ⟨q, 3, none⟩ = some (.pointer (some ⟨L, 0, none⟩)) := fun o => (World.cell?_alloc_past _ _ _ lq).trans c3
  go_enter Yba.func41, Yba.ntmps41
  go_upto_region 1 with fail
  go_cut [] (fun wx => Logged w L base lv m xs id wx)
  case first =>
    go_region_law ((refine step_append_lies _ (by rfl) _ _ _ (by rfl) base 21 i0 _ 1 4 Yba.underlying23 hi0 hz0 hz1 hz2 rfl (by omega) lv m xs (by rfl) ((hown.alloc _).drew) ⟨w.heap.size, 0, none⟩ 1 1 [.int .i32 id] (by rfl) (by rfl) (World.news_of_block (cs := #[.int .i32 id]) (t := 21) (fr := (0, 0)) (heap_alloc_new w _)) (by simp [Value.oneCell']) (by omega) (by unfold maxLen; omega) (by omega) (by simp; omega) (w.heap.size + 1) (by simp) ?_; intro gg cap w1 hown1 hgrow hat hlt; have cL1 : w1.cell? ⟨L, 0, none⟩ = some lv := (hgrow.cell_far ⟨L, 0, none⟩ (by simp; omega) (Ne.symm aL)).trans (cA _); have fL1 : w1.frozen? ⟨L, 0, none⟩ = false := (hgrow.frozen_far ⟨L, 0, none⟩ (by simp; omega) (Ne.symm aL)).trans (fA _); have q1 : w1.cell? ⟨q, 2, none⟩ = some (.bool b) := (hgrow.cell_far ⟨q, 2, none⟩ (by simp; omega) (Ne.symm aq)).trans (qA _); have q3 : w1.cell? ⟨q, 3, none⟩ = some (.pointer (some ⟨L, 0, none⟩)) := (hgrow.cell_far ⟨q, 3, none⟩ (by simp; omega) (Ne.symm aq)).trans (q3A _)))
    all_goals (go_wp2_with fail; go_meet; exact logged_of lL hL aL hown1 hgrow)
  case rest =>
    have hk := hcut
    obtain ⟨lv', h1, h2, h3⟩ := hk
    have d2 : wc.cell? ⟨q, 2, none⟩ = some (.bool b) := (World.cell?_of_block (h3.block q lq qL (Ne.symm aq))).trans c2
    clear h1 h2 h3
    have H : Hid (Logged w L base lv m xs id wc) := hcut
    clear hcut
    cases b
    · go_wp2
      go_ret
      exact ⟨⟨_, rfl⟩, H.out⟩
    · go_wp2
      go_ret
      exact ⟨⟨_, rfl⟩, H.out.alloc _⟩
end Go.Proofs.Ybulkegtk
