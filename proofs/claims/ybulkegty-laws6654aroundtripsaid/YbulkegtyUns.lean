/-
  binary.BigEndian.Uint32 and unsigned32: their contracts at this program.
-/
import Derived.Test.YbulkegtyProg
import Derived.WalkKit
import Derived.WalkSpells
import Derived.Deep.QuietTactic
import Derived.BigQuiet
import Derived.Lib.EndianBits
namespace Go.Proofs.Ybulkegty
open Go.RowKit
set_option linter.unusedVariables false

theorem below_drewN' {B : Nat} {a w : World} (h : Below B a w) (n : Nat) : Below B a (w.drewN n) := ⟨h.os, h.tape, h.output, h.size, h.block⟩

/-- The number that four bytes spell, the greatest first. -/
def be4 (z0 z1 z2 z3 : Int) : Int := z3 + z2 * 256 + z1 * 65536 + z0 * 16777216

set_option maxRecDepth 100000 in
set_option maxHeartbeats 1600000 in
theorem uint32 (g o c : Nat) (z0 z1 z2 z3 : Int) (w : World)
    (c0 : w.cell? ⟨g, o, none⟩ = some (.int .u8 z0)) (c1 : w.cell? ⟨g, o + 1, none⟩ = some (.int .u8 z1)) (c2 : w.cell? ⟨g, o + 2, none⟩ = some (.int .u8 z2)) (c3 : w.cell? ⟨g, o + 3, none⟩ = some (.int .u8 z3))
    (h0 : 0 ≤ z0) (h0' : z0 ≤ 255) (h1 : 0 ≤ z1) (h1' : z1 ≤ 255) (h2 : 0 ≤ z2) (h2' : z2 ≤ 255) (h3 : 0 ≤ z3) (h3' : z3 ≤ 255) :
    Calls Yba.prog 10 #[.agg #[], .slice (some ⟨g, o, none⟩) 4 c] w fun e w' => e = .returned (.int .u32 (be4 z0 z1 z2 z3)) ∧ Below w.heap.size w w' := by
  have lt0 := World.block_lt_of_cell? w _ c0
  have d0 : ∀ ob, (w.alloc ob).cell? ⟨g, o, none⟩ = some (.int .u8 z0) := fun ob => (World.cell?_alloc_past _ _ _ lt0).trans c0
  have d1 : ∀ ob, (w.alloc ob).cell? ⟨g, o + 1, none⟩ = some (.int .u8 z1) := fun ob => (World.cell?_alloc_past _ _ _ lt0).trans c1
  have d2 : ∀ ob, (w.alloc ob).cell? ⟨g, o + 2, none⟩ = some (.int .u8 z2) := fun ob => (World.cell?_alloc_past _ _ _ lt0).trans c2
  have d3 : ∀ ob, (w.alloc ob).cell? ⟨g, o + 3, none⟩ = some (.int .u8 z3) := fun ob => (World.cell?_alloc_past _ _ _ lt0).trans c3
  go_enter Yba.func10, Yba.ntmps10
  go_wp2
  go_quiet (fail)
  go_wp2
  go_ret
  refine ⟨?_, below_drewN' ((Below.refl _ w).alloc (Nat.le_refl _) _) _⟩
  unfold be4
  simp (disch := omega) only [u32_or8, u32_or16, u32_or24]
  rfl

theorem and128 : ∀ n : Nat, n < 256 → bits .and .u8 (n : Int) 128 = if 128 ≤ n then 128 else 0 := by decide +kernel
theorem and_hi (f : Int) (h0 : 128 ≤ f) (h1 : f ≤ 255) : bits .and .u8 f 128 = 128 := by
  obtain ⟨n, rfl⟩ := Int.eq_ofNat_of_zero_le (show 0 ≤ f by omega)
  rw [and128 n (by omega), if_pos (by omega)]
theorem and_lo (f : Int) (h0 : 0 ≤ f) (h1 : f < 128) : bits .and .u8 f 128 = 0 := by
  obtain ⟨n, rfl⟩ := Int.eq_ofNat_of_zero_le h0
  rw [and128 n (by omega), if_neg (by omega)]

set_option maxRecDepth 100000 in
theorem uns_len (code f vendor : Int) (a : Option Addr) (n c : Nat) (w : World) (hn : n ≠ 4) (hm : n ≤ maxLen) :
    Calls Yba.prog 6 #[.agg #[.int .u32 code, .int .u8 f, .int .u32 vendor, .slice a n c]] w fun e w' => e = .returned (.tuple #[.int .u32 0, .bool false]) ∧ Below w.heap.size w w' := by
  unfold maxLen at hm
  have hb : ((n : Int) != 4) = true := by rw [bne_iff_ne]; omega
  go_enter Yba.func6, Yba.ntmps6
  go_wp2
  go_ret2
  exact ⟨rfl, (Below.refl _ w).alloc (Nat.le_refl _) _⟩

set_option maxRecDepth 100000 in
theorem uns_flag (code f vendor : Int) (a : Option Addr) (c : Nat) (w : World) (h0 : 128 ≤ f) (h1 : f ≤ 255) :
    Calls Yba.prog 6 #[.agg #[.int .u32 code, .int .u8 f, .int .u32 vendor, .slice a 4 c]] w fun e w' => e = .returned (.tuple #[.int .u32 0, .bool false]) ∧ Below w.heap.size w w' := by
  have ha := and_hi f h0 h1
  go_enter Yba.func6, Yba.ntmps6
  go_wp2
  go_ret2
  exact ⟨rfl, (Below.refl _ w).alloc (Nat.le_refl _) _⟩

set_option maxRecDepth 100000 in
set_option maxHeartbeats 1600000 in
theorem uns_yes (code f vendor : Int) (g o c : Nat) (z0 z1 z2 z3 : Int) (w : World) (hf0 : 0 ≤ f) (hf1 : f < 128)
    (c0 : w.cell? ⟨g, o, none⟩ = some (.int .u8 z0)) (c1 : w.cell? ⟨g, o + 1, none⟩ = some (.int .u8 z1)) (c2 : w.cell? ⟨g, o + 2, none⟩ = some (.int .u8 z2)) (c3 : w.cell? ⟨g, o + 3, none⟩ = some (.int .u8 z3))
    (h0 : 0 ≤ z0) (h0' : z0 ≤ 255) (h1 : 0 ≤ z1) (h1' : z1 ≤ 255) (h2 : 0 ≤ z2) (h2' : z2 ≤ 255) (h3 : 0 ≤ z3) (h3' : z3 ≤ 255) :
    Calls Yba.prog 6 #[.agg #[.int .u32 code, .int .u8 f, .int .u32 vendor, .slice (some ⟨g, o, none⟩) 4 c]] w fun e w' => e = .returned (.tuple #[.int .u32 (be4 z0 z1 z2 z3), .bool true]) ∧ Below w.heap.size w w' := by
  have lt0 := World.block_lt_of_cell? w _ c0
  have ha := and_lo f hf0 hf1
  have d0 : ∀ ob, (w.alloc ob).cell? ⟨g, o, none⟩ = some (.int .u8 z0) := fun ob => (World.cell?_alloc_past _ _ _ lt0).trans c0
  have d1 : ∀ ob, (w.alloc ob).cell? ⟨g, o + 1, none⟩ = some (.int .u8 z1) := fun ob => (World.cell?_alloc_past _ _ _ lt0).trans c1
  have d2 : ∀ ob, (w.alloc ob).cell? ⟨g, o + 2, none⟩ = some (.int .u8 z2) := fun ob => (World.cell?_alloc_past _ _ _ lt0).trans c2
  have d3 : ∀ ob, (w.alloc ob).cell? ⟨g, o + 3, none⟩ = some (.int .u8 z3) := fun ob => (World.cell?_alloc_past _ _ _ lt0).trans c3
  go_enter Yba.func6, Yba.ntmps6
  go_wp2_with (go_at_call 10; refine (uint32 g o c z0 z1 z2 z3 _ (d0 _) (d1 _) (d2 _) (d3 _) h0 h0' h1 h1' h2 h2' h3 h3').mono ?_; rintro e w' ⟨rfl, hb⟩)
  go_ret2
  exact ⟨rfl, ((Below.refl _ w).alloc (Nat.le_refl _) _).trans (hb.mono (by simp))⟩
end Go.Proofs.Ybulkegty
