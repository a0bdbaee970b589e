/-
  LawS6654ARoundTrip: binary.BigEndian.AppendUint32 onto nil, unsigned32AVP, the law.
-/
import Derived.Test.YbulkegtyUns
import Derived.Deep.AppendLies
namespace Go.Proofs.Ybulkegty
open Go.RowKit
set_option linter.unusedVariables false
namespace Round

theorem info5 : (Yba.prog.info? 5).map (fun i => (i.zero, i.size, i.bytes)) = some (some (.int .u8 0), 1, 1) := by kernel_rfl
theorem hid {p : Prop} (h : p) : Hid p := h

/-- Four bytes at the head of block g. -/
def Four (w : World) (g : Nat) (z0 z1 z2 z3 : Int) : Prop :=
  w.cell? ⟨g, 0, none⟩ = some (.int .u8 z0) ∧ w.cell? ⟨g, 1, none⟩ = some (.int .u8 z1) ∧ w.cell? ⟨g, 2, none⟩ = some (.int .u8 z2) ∧ w.cell? ⟨g, 3, none⟩ = some (.int .u8 z3)

theorem four_new (X : World) (N : Nat) (z0 z1 z2 z3 : Int) (Z : Array Value) (hN : X.heap.size = N) : Four (X.alloc (.cells (#[.int .u8 z0, .int .u8 z1, .int .u8 z2, .int .u8 z3] ++ Z) 5)).drew N z0 z1 z2 z3 := by
  subst hN
  have h : (X.alloc (.cells (#[.int .u8 z0, .int .u8 z1, .int .u8 z2, .int .u8 z3] ++ Z) 5)).drew.heap[X.heap.size]? = some (.cells (#[.int .u8 z0, .int .u8 z1, .int .u8 z2, .int .u8 z3] ++ Z) 5 (0, 0)) := heap_alloc_new X _
  refine ⟨?_, ?_, ?_, ?_⟩ <;> simp only [World.cell?, h] <;> simp [Array.getElem?_append]

set_option maxRecDepth 100000 in
set_option maxHeartbeats 1600000 in
theorem append32 (v : Int) (h0 : 0 ≤ v) (h1 : v ≤ 4294967295) (w : World) :
    Calls Yba.prog 14 #[.agg #[], .slice none 0 0, .int .u32 v] w fun e w' => ∃ g cap, e = .returned (.slice (some ⟨g, 0, none⟩) 4 cap) ∧ w.heap.size ≤ g ∧ g < w'.heap.size ∧
      Four w' g (v / 16777216) (v / 65536 % 256) (v / 256 % 256) (v % 256) ∧ Below w.heap.size w w' := by
  obtain ⟨i0, hi0, hz0, hz1, hz2⟩ := info_parts info5
  go_enter Yba.func14, Yba.ntmps14
  go_wp2
  go_ret
  exact ⟨_, _, rfl, by omega, by simp, four_new _ _ _ _ _ _ _ (by simp), (((Below.refl _ _).alloc (Nat.le_refl _) _).alloc (by simp) _).alloc (by simp; omega) _ |>.drew⟩

theorem four_set {w : World} {g A : Nat} {z0 z1 z2 z3 : Int} (h : Four w g z0 z1 z2 z3) (hne : A ≠ g) {v0 v1 v2 v3 : Value} :
    Four ((((w.setCell ⟨A, 0, none⟩ v0).setCell ⟨A, 1, none⟩ v1).setCell ⟨A, 2, none⟩ v2).setCell ⟨A, 3, none⟩ v3) g z0 z1 z2 z3 := by
  have e : ∀ i, ((((w.setCell ⟨A, 0, none⟩ v0).setCell ⟨A, 1, none⟩ v1).setCell ⟨A, 2, none⟩ v2).setCell ⟨A, 3, none⟩ v3).cell? ⟨g, i, none⟩ = w.cell? ⟨g, i, none⟩ := by
    intro i
    rw [World.cell?_setCell_other _ _ _ _ (fun h => hne (congrArg Addr.block h)), World.cell?_setCell_other _ _ _ _ (fun h => hne (congrArg Addr.block h)), World.cell?_setCell_other _ _ _ _ (fun h => hne (congrArg Addr.block h)), World.cell?_setCell_other _ _ _ _ (fun h => hne (congrArg Addr.block h))]
  obtain ⟨h0, h1, h2, h3⟩ := h
  exact ⟨(e 0).trans h0, (e 1).trans h1, (e 2).trans h2, (e 3).trans h3⟩

set_option maxRecDepth 100000 in
set_option maxHeartbeats 1600000 in
theorem avp32 (code f v : Int) (h0 : 0 ≤ v) (h1 : v ≤ 4294967295) (w : World) :
    Calls Yba.prog 7 #[.int .u32 code, .int .u8 f, .int .u32 v] w fun e w' => ∃ g cap, e = .returned (.agg #[.int .u32 code, .int .u8 f, .int .u32 0, .slice (some ⟨g, 0, none⟩) 4 cap]) ∧ g < w'.heap.size ∧
      Four w' g (v / 16777216) (v / 65536 % 256) (v / 256 % 256) (v % 256) ∧ Below w.heap.size w w' := by
  go_enter Yba.func7, Yba.ntmps7
  go_wp2_with fail
  refine (append32 v h0 h1 _).mono ?_
  rintro e w2 ⟨g, cap, rfl, hg, hg2, h4, hb⟩
  have hz : w.heap.size < w2.heap.size := by have := hb.size; simp at this; omega
  have hgw : w.heap.size < g := by simp at hg; omega
  have c0 : w2.heap[w.heap.size]? = some (.cells #[.int .u32 0, .int .u8 0, .int .u32 0, .slice none 0 0] 25 (0, 0)) := (hb.block w.heap.size (by simp)).trans (heap_alloc_new w _)
  have k0 : w2.cell? ⟨w.heap.size, 0, none⟩ = some (.int .u32 0) := by simp [World.cell?, c0]
  have k1 : w2.cell? ⟨w.heap.size, 1, none⟩ = some (.int .u8 0) := by simp [World.cell?, c0]
  have k2 : w2.cell? ⟨w.heap.size, 2, none⟩ = some (.int .u32 0) := by simp [World.cell?, c0]
  have k3 : w2.cell? ⟨w.heap.size, 3, none⟩ = some (.slice none 0 0) := by simp [World.cell?, c0]
  have f0 : w2.frozen? ⟨w.heap.size, 0, none⟩ = false := by simp [World.frozen?, c0]
  have f1 : w2.frozen? ⟨w.heap.size, 1, none⟩ = false := by simp [World.frozen?, c0]
  have f2 : w2.frozen? ⟨w.heap.size, 2, none⟩ = false := by simp [World.frozen?, c0]
  have f3 : w2.frozen? ⟨w.heap.size, 3, none⟩ = false := by simp [World.frozen?, c0]
  have H4 := hid h4
  have HB := hid hb
  clear h4 hb c0
  go_wp2
  refine bodyPost_ret (v := .agg #[.int .u32 code, .int .u8 f, .int .u32 0, .slice (some ⟨g, 0, none⟩) 4 cap]) (by simp [results, Yba.results7, go_sem, k0, k1, k2, k3]) rfl ⟨g, cap, rfl, by simpa [World.setCell] using hg2, four_set H4.out (by omega), ?_⟩
  exact ((((((Below.refl _ _).alloc (Nat.le_refl _) _).trans (HB.out.mono (by simp))).setCell (Nat.le_refl _) _).setCell (Nat.le_refl _) _).setCell (Nat.le_refl _) _).setCell (Nat.le_refl _) _

set_option maxRecDepth 100000 in
set_option maxHeartbeats 1600000 in
theorem law (code f v : Int) (h0 : 0 ≤ v) (h1 : v ≤ 4294967295) (hf0 : 0 ≤ f) (hf1 : f ≤ 255) (w : World) :
    Calls Yba.prog 4 #[.int .u32 code, .int .u8 f, .int .u32 v] w fun e w' => e = .returned (.bool true) ∧ Below w.heap.size w w' := by
  by_cases hf : 128 ≤ f
  · have ha := and_hi f hf hf1
    go_enter Yba.func4, Yba.ntmps4
    go_wp2_with fail
    refine (avp32 code f v h0 h1 _).mono ?_
    rintro e w2 ⟨g, cap, rfl, hg, h4, hb⟩
    have HB := hid hb
    clear h4 hb
    go_wp2_with fail
    refine (uns_flag code f 0 (some ⟨g, 0, none⟩) cap _ hf hf1).mono ?_
    rintro e w3 ⟨rfl, h3⟩
    have HB3 : Hid (Below w.heap.size w w3) := (HB.out.alloc HB.out.size _).trans (h3.mono (by have := HB.out.size; simp; omega))
    clear h3 HB
    go_wp2
    go_ret
    exact ⟨rfl, HB3.out⟩
  · have ha := and_lo f hf0 (by omega)
    go_enter Yba.func4, Yba.ntmps4
    go_wp2_with fail
    refine (avp32 code f v h0 h1 _).mono ?_
    rintro e w2 ⟨g, cap, rfl, hg, ⟨c0, c1, c2, c3⟩, hb⟩
    have HB := hid hb
    have HC := hid (And.intro c0 (And.intro c1 (And.intro c2 c3)))
    clear c0 c1 c2 c3 hb
    go_wp2_with fail
    refine (uns_yes code f 0 g 0 cap (v / 16777216) (v / 65536 % 256) (v / 256 % 256) (v % 256) _ hf0 (by omega) ((World.cell?_alloc_past _ _ _ hg).trans HC.out.1) ((World.cell?_alloc_past _ _ _ hg).trans HC.out.2.1) ((World.cell?_alloc_past _ _ _ hg).trans HC.out.2.2.1) ((World.cell?_alloc_past _ _ _ hg).trans HC.out.2.2.2)
      (by omega) (by omega) (by omega) (by omega) (by omega) (by omega) (by omega) (by omega)).mono ?_
    rintro e w3 ⟨rfl, h3⟩
    have HB3 : Hid (Below w.heap.size w w3) := (HB.out.alloc HB.out.size _).trans (h3.mono (by have := HB.out.size; simp; omega))
    have hv : be4 (v / 16777216) (v / 65536 % 256) (v / 256 % 256) (v % 256) = v := by unfold be4; omega
    rw [hv]
    clear h3 HB hv HC
    go_wp2
    go_ret
    exact ⟨rfl, HB3.out⟩
end Round
end Go.Proofs.Ybulkegty
