/-
  DERIVED. The argument's members, read from its memory.
-/
import Derived.Test.YbulkegvaFmtLawA
import Derived.OpenShut
import Derived.Deep.Slices
set_option linter.unusedVariables false
set_option linter.unusedSimpArgs false
namespace Go.Proofs.YbulkegvaFmt
open Go.RowKit Go.Extern.Stop Go.Stop Go.Extern Go.Maps

theorem Ybaf.size30 : Ybaf.prog.cellsOf 30 = 13 := by kernel_rfl
theorem Ybaf.size28 : Ybaf.prog.cellsOf 28 = 8 := by kernel_rfl
theorem Ybaf.size27 : Ybaf.prog.cellsOf 27 = 2 := by kernel_rfl
theorem Ybaf.size5 : Ybaf.prog.cellsOf 5 = 1 := by kernel_rfl
theorem Ybaf.size4 : Ybaf.prog.cellsOf 4 = 1 := by kernel_rfl
theorem Ybaf.size9 : Ybaf.prog.cellsOf 9 = 1 := by kernel_rfl

section
variable {H : Type} {enc : TypeId × Value → H} {w : World} {base : Nat} {sp : Nat → Bool} {held : Bool} {fuel : Nat}

theorem open_mem {cs : List Value} {x : DataW H × List MemPlace} (hy : DataW.trod enc Ybaf.prog w base sp held fuel 30 cs = some x) : ∃ m : Mem, cs = m.cells.toList ∧ m.Ok := by
  obtain ⟨ys, m, _, rfl, hlen, hl, hf⟩ := DataW.trod_struct Ybaf.underlying30 hy
  rw [Ybaf.size30] at hlen
  match cs, hlen with
  | [c0, c1, c2, c3, c4, c5, c6, c7, c8, c9, c10, c11, c12], _ =>
  match ys, hl with
  | [y0, y1, y2, y3, y4, y5], _ =>
  have f0 := hf 0 _ rfl
  have f1 := hf 1 _ rfl
  have f2 := hf 2 _ rfl
  have f3 := hf 3 _ rfl
  have f4 := hf 4 _ rfl
  have f5 := hf 5 _ rfl
  simp [Ybaf.size5, Ybaf.size28, Ybaf.size4] at f0 f1 f2 f3 f4 f5
  obtain ⟨k, ek, rfl, sk⟩ := DataW.trod_int Ybaf.underlying5 f0
  obtain ⟨ct, ect, rfl, sct⟩ := DataW.trod_int Ybaf.underlying5 f2
  obtain ⟨cb, ecb, rfl⟩ := DataW.trod_bool Ybaf.underlying4 f3
  obtain ⟨bt, ebt, rfl, sbt⟩ := DataW.trod_int Ybaf.underlying5 f4
  obtain ⟨bb, ebb, rfl⟩ := DataW.trod_bool Ybaf.underlying4 f5
  obtain ⟨zs, mz, _, rfl, _, hlz, hfz⟩ := DataW.trod_array Ybaf.underlying28 f1
  match zs, hlz with
  | [z0, z1, z2, z3], _ =>
  have g0 := hfz 0 (by omega)
  have g1 := hfz 1 (by omega)
  have g2 := hfz 2 (by omega)
  have g3 := hfz 3 (by omega)
  simp [Ybaf.size27] at g0 g1 g2 g3
  obtain ⟨us0, mu0, _, rfl, _, hlu0, hfu0⟩ := DataW.trod_struct Ybaf.underlying27 g0
  match us0, hlu0 with
  | [u00, u01], _ =>
  have p0 := hfu0 0 _ rfl
  have q0 := hfu0 1 _ rfl
  simp [Ybaf.size5, Ybaf.size9] at p0 q0
  obtain ⟨t0, et0, rfl, st0⟩ := DataW.trod_int Ybaf.underlying5 p0
  obtain ⟨s0, es0, rfl, ss0⟩ := DataW.trod_string Ybaf.underlying9 q0
  obtain ⟨us1, mu1, _, rfl, _, hlu1, hfu1⟩ := DataW.trod_struct Ybaf.underlying27 g1
  match us1, hlu1 with
  | [u10, u11], _ =>
  have p1 := hfu1 0 _ rfl
  have q1 := hfu1 1 _ rfl
  simp [Ybaf.size5, Ybaf.size9] at p1 q1
  obtain ⟨t1, et1, rfl, st1⟩ := DataW.trod_int Ybaf.underlying5 p1
  obtain ⟨s1, es1, rfl, ss1⟩ := DataW.trod_string Ybaf.underlying9 q1
  obtain ⟨us2, mu2, _, rfl, _, hlu2, hfu2⟩ := DataW.trod_struct Ybaf.underlying27 g2
  match us2, hlu2 with
  | [u20, u21], _ =>
  have p2 := hfu2 0 _ rfl
  have q2 := hfu2 1 _ rfl
  simp [Ybaf.size5, Ybaf.size9] at p2 q2
  obtain ⟨t2, et2, rfl, st2⟩ := DataW.trod_int Ybaf.underlying5 p2
  obtain ⟨s2, es2, rfl, ss2⟩ := DataW.trod_string Ybaf.underlying9 q2
  obtain ⟨us3, mu3, _, rfl, _, hlu3, hfu3⟩ := DataW.trod_struct Ybaf.underlying27 g3
  match us3, hlu3 with
  | [u30, u31], _ =>
  have p3 := hfu3 0 _ rfl
  have q3 := hfu3 1 _ rfl
  simp [Ybaf.size5, Ybaf.size9] at p3 q3
  obtain ⟨t3, et3, rfl, st3⟩ := DataW.trod_int Ybaf.underlying5 p3
  obtain ⟨s3, es3, rfl, ss3⟩ := DataW.trod_string Ybaf.underlying9 q3
  simp at ek et0 es0 et1 es1 et2 es2 et3 es3 ect ecb ebt ebb
  subst ek et0 es0 et1 es1 et2 es2 et3 es3 ect ecb ebt ebb
  exact ⟨⟨k, t0, s0, t1, s1, t2, s2, t3, s3, ct, cb, bt, bb⟩, rfl, ⟨(bounds_u8 sk).1, (bounds_u8 st0).1, (bounds_u8 st1).1, (bounds_u8 st2).1, (bounds_u8 st3).1, (bounds_u8 sct).1, (bounds_u8 sbt).1⟩⟩

theorem open_members {a : Option Addr} {len cap : Nat} {x : DataW H × List MemPlace} (h : DataW.trod enc Ybaf.prog w base sp held fuel 22 [.slice a len cap] = some x) :
    len = 0 ∨ ∃ (ab ao : Nat) (Ms : List Mem), a = some ⟨ab, ao, none⟩ ∧ len = Ms.length ∧ Held Ms ab ao w ∧ ∀ (i : Nat) (m : Mem), Ms[i]? = some m → m.Ok := by
  rcases Deep.open_slice Ybaf.underlying22 h with ⟨hcs, _⟩ | ⟨a', len', cap', m, n, D, Pl, hcs, hb, hl, hm, hmm, rfl, hx⟩
  · left
    simp at hcs
    exact hcs.2.1
  simp at hcs
  obtain ⟨rfl, rfl, rfl⟩ := hcs
  by_cases h0 : len = 0
  · exact Or.inl h0
  right
  have hlm : len ≤ m := by rw [hmm]; split <;> omega
  rw [Ybaf.size30] at hx
  obtain ⟨M, hM⟩ := @Deep.choose_lt Mem ⟨⟨0, 0, ⟨#[]⟩, 0, ⟨#[]⟩, 0, ⟨#[]⟩, 0, ⟨#[]⟩, 0, false, 0, false⟩⟩ len (fun i mm => w.cells? base (a'.add (i * 13)) 13 = some mm.cells.toList ∧ mm.Ok) (fun i hi => by
    obtain ⟨cs', h1, h2⟩ := hx i (by omega)
    obtain ⟨mm, rfl, ok⟩ := open_mem h2
    exact ⟨mm, h1, ok⟩)
  have hsp : a'.spot = none := by
    obtain ⟨_, _, h2⟩ := World.cells?_some (hM 0 (by omega)).1
    have h3 := h2 0 (by omega)
    simp [Mem.cells] at h3
    simpa [Addr.add] using World.cell?_spot h3
  obtain ⟨ab, ao, sp'⟩ := a'
  simp only at hsp
  subst hsp
  have hget : ∀ (i : Nat) (m : Mem), ((List.range len).map M)[i]? = some m → i < len ∧ m = M i := by
    intro i m hi
    have hlt : i < len := by simpa using (List.getElem?_eq_some_iff.1 hi).1
    refine ⟨hlt, ?_⟩
    rw [List.getElem?_map, List.getElem?_range hlt] at hi
    simpa using hi.symm
  have hcell : ∀ i, i < len → ∀ (c : Nat) (v : Value), (M i).cells[c]? = some v → w.cell? ⟨ab, ao + (i * 13 + c), none⟩ = some v := by
    intro i hi c v hv
    obtain ⟨_, _, h2⟩ := World.cells?_some (hM i hi).1
    have hc : c < 13 := (Array.getElem?_eq_some_iff.1 hv).1
    have h3 := h2 c hc
    have e : ((⟨ab, ao, none⟩ : Addr).add (i * 13)).add c = ⟨ab, ao + (i * 13 + c), none⟩ := by
      unfold Addr.add
      split <;> split <;> simp_all <;> omega
    rw [e] at h3
    rw [h3]
    simpa using hv
  refine ⟨ab, ao, (List.range len).map M, rfl, by simp, ?_, ?_⟩
  · intro i m hi
    obtain ⟨hlt, rfl⟩ := hget i m hi
    refine ⟨?_, hcell i hlt⟩
    have h1 := hcell i hlt 0 _ rfl
    apply Classical.byContradiction
    intro hn
    have h2 : w.heap[ab]? = none := Array.getElem?_eq_none (by omega)
    simp [World.cell?, h2] at h1
  · intro i m hi
    obtain ⟨hlt, rfl⟩ := hget i m hi
    exact (hM i hlt).2
end

end Go.Proofs.YbulkegvaFmt
