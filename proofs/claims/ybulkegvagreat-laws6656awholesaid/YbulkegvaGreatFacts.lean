/-
  The closed facts of the row, each a theorem of its own (the kernel's memory at this great cut does not bear them in one declaration).
-/
import Derived.Test.YbulkegvaGreatRows
import Derived.JoinedOf
import Derived.KernelRfl
namespace Go.Proofs.YbulkegvaGreat.Facts
open Go

theorem joined_of {P : Program} {f : FuncId} {fn : Func} {s : ChangeSpec} {c : OpenClaim} (h1 : (c.wf (OpenSpec.ofChange s)) = true) (h2 : (laidOutB P) = true) (h3 : (mapsRowed P) = true) (h4 : (fn.params.all (P.readableRec ·)) = true) (h5 : (namedTie P c.named s.vars) = true) (h6 : ((c.stops == [])) = true) (h7 : ((P.stops == [])) = true) (h8 : ((c.knobs == [])) = true) (h9 : ((P.stopKnobs == [])) = true) (h10 : ((c.inPlace == P.inPlace f)) = true) (h11 : ((c.unfollowed == P.unfollowed f)) = true) (h12 : ((c.recurses == P.recurses f)) = true) (h13 : ((c.named == P.varsNamed f)) = true) (h14 : ((c.maps == (fn.params.toList ++ s.plain.varTypes P).any (P.mapsRec ·))) = true) (h15 : ((c.ifaces == (fn.params.toList ++ s.plain.varTypes P).any (P.ifacesRec ·))) = true) (h16 : ((c.mapsOut == P.mapsAmong fn.resultTypes.toList)) = true) (h17 : ((c.loops == (fn.params.toList ++ s.plain.varTypes P).any (P.loopsFrom ·))) = true) (h18 : ((c.wideKeys == (fn.params.toList ++ s.plain.varTypes P ++ fn.resultTypes.toList).any (P.wideKeysFrom ·))) = true) (h19 : (s.vars.all (P.varReadable ·)) = true) (h20 : (fn.resultTypes.all (fun t => P.readableRec t && decide (t < P.types.size))) = true) (h21 : ((c.ifacesOut == fn.resultTypes.toList.any (P.ifacesRec ·))) = true) (h22 : ((c.loopsOut == fn.resultTypes.toList.any (P.loopsFrom ·))) = true) (h23 : ((c.plainKeys == P.plainKeys)) = true) (h24 : (c.shortTexts.isNone) = true) (h25 : (P.stopsHeard) = true) (h26 : (P.mayEnter) = true) (h27 : ((c.lifted == P.liftsFinal)) = true) (h28 : ((P.make == some c.make)) = true) (h29 : ((c.kinds == (if c.domain.isEmpty then [] else fn.params.toList.map fun t => match P.underlying t with | some (.int k) => some k | _ => none))) = true) (h30 : ((c.pinned == c.pinnedBy)) = true) (h31 : ((c.veiled == (fn.params.toList ++ s.plain.varTypes P ++ fn.resultTypes.toList).any (P.veiledRec ·))) = true) (h32 : (c.veiledFits P fn.params.toList (fn.params.toList ++ s.plain.varTypes P ++ fn.resultTypes.toList)) = true) : joinedFacts P f fn s c = true := by
  unfold joinedFacts
  exact Bool.and_eq_true_iff.2 ⟨Bool.and_eq_true_iff.2 ⟨Bool.and_eq_true_iff.2 ⟨Bool.and_eq_true_iff.2 ⟨Bool.and_eq_true_iff.2 ⟨Bool.and_eq_true_iff.2 ⟨Bool.and_eq_true_iff.2 ⟨Bool.and_eq_true_iff.2 ⟨Bool.and_eq_true_iff.2 ⟨Bool.and_eq_true_iff.2 ⟨Bool.and_eq_true_iff.2 ⟨Bool.and_eq_true_iff.2 ⟨Bool.and_eq_true_iff.2 ⟨Bool.and_eq_true_iff.2 ⟨Bool.and_eq_true_iff.2 ⟨Bool.and_eq_true_iff.2 ⟨Bool.and_eq_true_iff.2 ⟨Bool.and_eq_true_iff.2 ⟨Bool.and_eq_true_iff.2 ⟨Bool.and_eq_true_iff.2 ⟨Bool.and_eq_true_iff.2 ⟨Bool.and_eq_true_iff.2 ⟨Bool.and_eq_true_iff.2 ⟨Bool.and_eq_true_iff.2 ⟨Bool.and_eq_true_iff.2 ⟨Bool.and_eq_true_iff.2 ⟨Bool.and_eq_true_iff.2 ⟨Bool.and_eq_true_iff.2 ⟨Bool.and_eq_true_iff.2 ⟨Bool.and_eq_true_iff.2 ⟨Bool.and_eq_true_iff.2 ⟨h1, h2⟩, h3⟩, h4⟩, h5⟩, h6⟩, h7⟩, h8⟩, h9⟩, h10⟩, h11⟩, h12⟩, h13⟩, h14⟩, h15⟩, h16⟩, h17⟩, h18⟩, h19⟩, h20⟩, h21⟩, h22⟩, h23⟩, h24⟩, h25⟩, h26⟩, h27⟩, h28⟩, h29⟩, h30⟩, h31⟩, h32⟩

/-- A test of every type, in stretches. -/
theorem stretch {p : Nat → Bool} {a n : Nat} (h : ((List.range n).all fun i => p (a + i)) = true) : ∀ i, a ≤ i → i < a + n → p i = true := by
  intro i h1 h2
  have := List.all_eq_true.1 h (i - a) (List.mem_range.2 (by omega))
  rwa [show a + (i - a) = i from by omega] at this

def rowed (P : Program) (t : Nat) : Bool := match P.underlying t with | some (.map _ e) => decide (e < P.types.size) | _ => true
theorem mapsRowed_is (P : Program) : mapsRowed P = (List.range P.types.size).all (rowed P) := rfl
theorem count : Ybaz.prog.types.size = 589 := by kernel_rfl
theorem r0 : ((List.range 100).all fun i => rowFine Ybaz.prog (0 + i)) = true := by kernel_rfl
theorem r1 : ((List.range 100).all fun i => rowFine Ybaz.prog (100 + i)) = true := by kernel_rfl
theorem r2 : ((List.range 100).all fun i => rowFine Ybaz.prog (200 + i)) = true := by kernel_rfl
theorem r3 : ((List.range 100).all fun i => rowFine Ybaz.prog (300 + i)) = true := by kernel_rfl
theorem r4 : ((List.range 100).all fun i => rowFine Ybaz.prog (400 + i)) = true := by kernel_rfl
theorem r5 : ((List.range 89).all fun i => rowFine Ybaz.prog (500 + i)) = true := by kernel_rfl
theorem rall : (List.range Ybaz.prog.types.size).all (rowFine Ybaz.prog) = true := by
  rw [count]
  refine List.all_eq_true.2 fun i hi => ?_
  have hi' : i < 589 := List.mem_range.1 hi
  by_cases g0 : i < 100
  · exact stretch r0 i (by omega) (by omega)
  by_cases g1 : i < 200
  · exact stretch r1 i (by omega) (by omega)
  by_cases g2 : i < 300
  · exact stretch r2 i (by omega) (by omega)
  by_cases g3 : i < 400
  · exact stretch r3 i (by omega) (by omega)
  by_cases g4 : i < 500
  · exact stretch r4 i (by omega) (by omega)
  by_cases g5 : i < 589
  · exact stretch r5 i (by omega) (by omega)
  omega
theorem m0 : ((List.range 100).all fun i => rowed Ybaz.prog (0 + i)) = true := by kernel_rfl
theorem m1 : ((List.range 100).all fun i => rowed Ybaz.prog (100 + i)) = true := by kernel_rfl
theorem m2 : ((List.range 100).all fun i => rowed Ybaz.prog (200 + i)) = true := by kernel_rfl
theorem m3 : ((List.range 100).all fun i => rowed Ybaz.prog (300 + i)) = true := by kernel_rfl
theorem m4 : ((List.range 100).all fun i => rowed Ybaz.prog (400 + i)) = true := by kernel_rfl
theorem m5 : ((List.range 89).all fun i => rowed Ybaz.prog (500 + i)) = true := by kernel_rfl
theorem mall : (List.range Ybaz.prog.types.size).all (rowed Ybaz.prog) = true := by
  rw [count]
  refine List.all_eq_true.2 fun i hi => ?_
  have hi' : i < 589 := List.mem_range.1 hi
  by_cases g0 : i < 100
  · exact stretch m0 i (by omega) (by omega)
  by_cases g1 : i < 200
  · exact stretch m1 i (by omega) (by omega)
  by_cases g2 : i < 300
  · exact stretch m2 i (by omega) (by omega)
  by_cases g3 : i < 400
  · exact stretch m3 i (by omega) (by omega)
  by_cases g4 : i < 500
  · exact stretch m4 i (by omega) (by omega)
  by_cases g5 : i < 589
  · exact stretch m5 i (by omega) (by omega)
  omega
theorem globs : (Ybaz.prog.globals.all (fun g => decide (g.type < Ybaz.prog.types.size))) = true := by kernel_rfl
theorem parms : (Ybaz.prog.funcs.all (fun f => f.params.all fun t => decide (t < Ybaz.prog.types.size))) = true := by kernel_rfl
theorem t1 : (Rows.lawS6656AWholeRow.wf (OpenSpec.ofChange Rows.lawS6656AWholeSpec)) = true := by kernel_rfl
theorem t2 : (laidOutB Ybaz.prog) = true := by
  unfold laidOutB
  exact Bool.and_eq_true_iff.2 ⟨Bool.and_eq_true_iff.2 ⟨rall, globs⟩, parms⟩
theorem t3 : (mapsRowed Ybaz.prog) = true := (mapsRowed_is Ybaz.prog).trans mall
theorem t4 : (Ybaz.f3.params.all (Ybaz.prog.readableRec ·)) = true := by kernel_rfl
theorem t5 : (namedTie Ybaz.prog Rows.lawS6656AWholeRow.named Rows.lawS6656AWholeSpec.vars) = true := by kernel_rfl
theorem t6 : ((Rows.lawS6656AWholeRow.stops == [])) = true := by kernel_rfl
theorem t7 : ((Ybaz.prog.stops == [])) = true := by kernel_rfl
theorem t8 : ((Rows.lawS6656AWholeRow.knobs == [])) = true := by kernel_rfl
theorem t9 : ((Ybaz.prog.stopKnobs == [])) = true := by kernel_rfl
theorem t10 : ((Rows.lawS6656AWholeRow.inPlace == Ybaz.prog.inPlace 3)) = true := by kernel_rfl
theorem t11 : ((Rows.lawS6656AWholeRow.unfollowed == Ybaz.prog.unfollowed 3)) = true := by kernel_rfl
theorem t12 : ((Rows.lawS6656AWholeRow.recurses == Ybaz.prog.recurses 3)) = true := by kernel_rfl
theorem t13 : ((Rows.lawS6656AWholeRow.named == Ybaz.prog.varsNamed 3)) = true := by kernel_rfl
theorem t14 : ((Rows.lawS6656AWholeRow.maps == (Ybaz.f3.params.toList ++ Rows.lawS6656AWholeSpec.plain.varTypes Ybaz.prog).any (Ybaz.prog.mapsRec ·))) = true := by kernel_rfl
theorem t15 : ((Rows.lawS6656AWholeRow.ifaces == (Ybaz.f3.params.toList ++ Rows.lawS6656AWholeSpec.plain.varTypes Ybaz.prog).any (Ybaz.prog.ifacesRec ·))) = true := by kernel_rfl
theorem t16 : ((Rows.lawS6656AWholeRow.mapsOut == Ybaz.prog.mapsAmong Ybaz.f3.resultTypes.toList)) = true := by kernel_rfl
theorem t17 : ((Rows.lawS6656AWholeRow.loops == (Ybaz.f3.params.toList ++ Rows.lawS6656AWholeSpec.plain.varTypes Ybaz.prog).any (Ybaz.prog.loopsFrom ·))) = true := by kernel_rfl
theorem t18 : ((Rows.lawS6656AWholeRow.wideKeys == (Ybaz.f3.params.toList ++ Rows.lawS6656AWholeSpec.plain.varTypes Ybaz.prog ++ Ybaz.f3.resultTypes.toList).any (Ybaz.prog.wideKeysFrom ·))) = true := by kernel_rfl
theorem t19 : (Rows.lawS6656AWholeSpec.vars.all (Ybaz.prog.varReadable ·)) = true := by kernel_rfl
theorem t20 : (Ybaz.f3.resultTypes.all (fun t => Ybaz.prog.readableRec t && decide (t < Ybaz.prog.types.size))) = true := by kernel_rfl
theorem t21 : ((Rows.lawS6656AWholeRow.ifacesOut == Ybaz.f3.resultTypes.toList.any (Ybaz.prog.ifacesRec ·))) = true := by kernel_rfl
theorem t22 : ((Rows.lawS6656AWholeRow.loopsOut == Ybaz.f3.resultTypes.toList.any (Ybaz.prog.loopsFrom ·))) = true := by kernel_rfl
theorem t23 : ((Rows.lawS6656AWholeRow.plainKeys == Ybaz.prog.plainKeys)) = true := by kernel_rfl
theorem t24 : (Rows.lawS6656AWholeRow.shortTexts.isNone) = true := by kernel_rfl
theorem t25 : (Ybaz.prog.stopsHeard) = true := by kernel_rfl
theorem t26 : (Ybaz.prog.mayEnter) = true := by kernel_rfl
theorem t27 : ((Rows.lawS6656AWholeRow.lifted == Ybaz.prog.liftsFinal)) = true := by kernel_rfl
theorem t28 : ((Ybaz.prog.make == some Rows.lawS6656AWholeRow.make)) = true := by kernel_rfl
theorem t29 : ((Rows.lawS6656AWholeRow.kinds == (if Rows.lawS6656AWholeRow.domain.isEmpty then [] else Ybaz.f3.params.toList.map fun t => match Ybaz.prog.underlying t with | some (.int k) => some k | _ => none))) = true := by kernel_rfl
theorem t30 : ((Rows.lawS6656AWholeRow.pinned == Rows.lawS6656AWholeRow.pinnedBy)) = true := by kernel_rfl
theorem t31 : ((Rows.lawS6656AWholeRow.veiled == (Ybaz.f3.params.toList ++ Rows.lawS6656AWholeSpec.plain.varTypes Ybaz.prog ++ Ybaz.f3.resultTypes.toList).any (Ybaz.prog.veiledRec ·))) = true := by kernel_rfl
theorem t32 : (Rows.lawS6656AWholeRow.veiledFits Ybaz.prog Ybaz.f3.params.toList (Ybaz.f3.params.toList ++ Rows.lawS6656AWholeSpec.plain.varTypes Ybaz.prog ++ Ybaz.f3.resultTypes.toList)) = true := by kernel_rfl

theorem all : joinedFacts Ybaz.prog 3 Ybaz.f3 Rows.lawS6656AWholeSpec Rows.lawS6656AWholeRow = true :=
  joined_of t1 t2 t3 t4 t5 t6 t7 t8 t9 t10 t11 t12 t13 t14 t15 t16 t17 t18 t19 t20 t21 t22 t23 t24 t25 t26 t27 t28 t29 t30 t31 t32
end Go.Proofs.YbulkegvaGreat.Facts
