/-
  PROOF OF 'Rows.LawS6653AWholeSaid': the frame after the guide's shell for a law over slices, typed by hand for a string, an array of 32 bytes, a slice of int32 and a slice of bool.
-/
import Derived.Test.YbulkegtkRows
import Derived.WalkKit
import Derived.ProofKit
import Derived.OpenShut
import Derived.ShutString
import Derived.ChangeOld
import Derived.Below
import Derived.Test.YbulkegtkLaw0
namespace Go.Proofs.Ybulkegtk.lawS6653AWhole
open Go.ChangeShapes Go.WideShapes Go.ChangeAt Go.RowKit
open Go.ChangeMaps (open_string shut_string)
set_option linter.unusedVariables false

theorem own : ownKnob Yba.prog.godebug = none := by kernel_rfl
theorem laidOut : laidOutB Yba.prog = true := by kernel_rfl

/-- What the walk is told of a slice of int32 that came in. -/
def IsRow (w : World) (a : Option Addr) (len cap : Nat) (zs : List Int) : Prop :=
  (a = none ∧ len = 0 ∧ cap = 0 ∧ zs = []) ∨
  ∃ x, a = some x ∧ len ≤ cap ∧ cap ≤ maxLen ∧ zs.length = cap ∧ (∀ i, i < zs.length → w.cell? (x.add i) = some (.int .i32 (zs.getD i 0)))

theorem walk (s : ByteArray) (fs : Array Value) (a2 : Option Addr) (len2 cap2 : Nat) (z2 : List Int) (a3 : Option Addr) (len3 cap3 : Nat) (w : World) (hfs : fs.size = 32) (hfb : ∀ i, i < 32 → ∃ x, fs[i]? = some (.int .u8 x) ∧ (Lit.int .u8 x).wf = true)
    (w2 : IsRow w a2 len2 cap2 z2) (hl3 : len3 ≤ maxLen) (w3 : FailsAt w a3 len3) :
    Calls Yba.prog 3 #[.string s, .agg fs, .slice a2 len2 cap2, .slice a3 len3 cap3] w fun e w' => e = .returned (.bool true) ∧ Below w.heap.size w w' := by
  rcases w2 with ⟨rfl, rfl, rfl, rfl⟩ | ⟨x, rfl, hl, hm, hz, hc⟩
  · exact law_nil s fs _ w hfs hfb
  · by_cases h1 : 65536 < len2
    · exact law_long s fs _ _ _ _ w h1
    · by_cases h2 : len2 = 0
      · subst h2
        exact law_zero s fs x cap2 _ w hfs hfb
      · obtain ⟨b, off, rfl, hc'⟩ := ints_at hc (by omega)
        have hb : b < w.heap.size := World.block_lt_of_cell? w _ (hc' 0 (by omega))
        refine law_some s fs b off len2 cap2 a3 len3 cap3 (z2.take len2) w hfs hfb (by simp; omega) (by omega) (by omega) hb (fun j hj => ?_) (by unfold maxLen at hl3; omega) w3
        rw [hc' j (by omega)]
        simp [List.getD, hj]

theorem cells4 : Yba.prog.cellsOf 4 = 1 := by kernel_rfl

set_option maxRecDepth 100000 in
theorem lifted (os : Os) (started : os.Started) (H : Type) (enc : TypeId × Value → H) :
    ReturnsInHanded {} Yba.checked os 3 .any (Rows.lawS6653AWholeSpec.pre6 enc Yba.prog Yba.f3 Rows.lawS6653AWholeRow.domain false) (Rows.lawS6653AWholeSpec.post enc Yba.prog Yba.f3 false true false false) := by
  refine returnsInHanded_of_change (C := Yba.checked) own started (by kernel_rfl) Yba.func3
    (ChangeSpec.witness6 (enc := enc) (C := Yba.checked) false ⟨#[], #[.string ByteArray.empty, .agg #[.int .u8 0, .int .u8 0, .int .u8 0, .int .u8 0, .int .u8 0, .int .u8 0, .int .u8 0, .int .u8 0, .int .u8 0, .int .u8 0, .int .u8 0, .int .u8 0, .int .u8 0, .int .u8 0, .int .u8 0, .int .u8 0, .int .u8 0, .int .u8 0, .int .u8 0, .int .u8 0, .int .u8 0, .int .u8 0, .int .u8 0, .int .u8 0, .int .u8 0, .int .u8 0, .int .u8 0, .int .u8 0, .int .u8 0, .int .u8 0, .int .u8 0, .int .u8 0], .slice none 0 0, .slice none 0 0], []⟩ 8 (by kernel_rfl) (by kernel_rfl) (by kernel_rfl) (by kernel_rfl)) ?_
  intro W base args ds gs before hval0 hW hcnd _
  have hval : ∀ (j : Nat) t v, Yba.f3.params[j]? = some t → args[j]? = some v → Value.okWide Yba.prog W .any base t v := hval0
  have hW' := hW
  obtain ⟨p, q, hA0, hV, rfl, hfz, hnd⟩ := hW
  have hA : DataW.TrodAll enc Yba.prog W 0 (fun _ => true) true Yba.f3.params.toList args.toList ds p := hA0
  rw [Yba.params3] at hA hval
  obtain ⟨v0, vs0, d0, ds0, p0, q0, hargs, rfl, rfl, h0, r0⟩ := trodAll_cons hA
  obtain ⟨v1, vs1, d1, ds1, p1, q1, rfl, rfl, rfl, h1, r1⟩ := trodAll_cons r0
  obtain ⟨v2, vs2, d2, ds2, p2, q2, rfl, rfl, rfl, h2, r2⟩ := trodAll_cons r1
  obtain ⟨v3, vs3, d3, ds3, p3, q3, rfl, rfl, rfl, h3, r3⟩ := trodAll_cons r2
  obtain ⟨rfl, rfl, rfl⟩ := trodAll_nil r3
  obtain rfl : args = #[v0, v1, v2, v3] := by cases args; simp_all
  obtain ⟨rfl, rfl⟩ := trodVars_none hV
  have k1 := h1
  have lt1 : ∀ x ∈ p1, x.block < W.heap.size := by obtain ⟨m, hm⟩ := k1; exact DataW.trod_lt m _ _ _ hm
  have k2 := h2
  have lt2 : ∀ x ∈ p2, x.block < W.heap.size := by obtain ⟨m, hm⟩ := k2; exact DataW.trod_lt m _ _ _ hm
  have k3 := h3
  have lt3 : ∀ x ∈ p3, x.block < W.heap.size := by obtain ⟨m, hm⟩ := k3; exact DataW.trod_lt m _ _ _ hm
  obtain ⟨s0, rfl, rfl, rfl, w0⟩ := open_string Yba.underlying9 (hval 0 9 v0 rfl rfl) h0
  -- the array
  obtain ⟨fs, rfl, hfs⟩ : ∃ cs, v1 = .agg cs ∧ cs.size = 32 := by
    have h := hval 1 22 v1 rfl rfl
    unfold Value.okWide at h
    simp only [Yba.underlying22] at h
    obtain ⟨cs, hv, hs, _⟩ := h
    exact ⟨cs, hv, hs.trans cells22⟩
  have hfb : ∀ i, i < 32 → ∃ x, fs[i]? = some (.int .u8 x) ∧ (Lit.int .u8 x).wf = true := by
    intro i hi
    obtain ⟨fuel, hf⟩ := h1
    obtain ⟨xs, m, _, _, _, hxl, hx⟩ := DataW.trod_array Yba.underlying22 hf
    have hi' := hx i hi
    have hlt : i < fs.toList.length := by simp; omega
    rw [cells5, Nat.mul_one, Value.cells, List.drop_eq_getElem_cons hlt, show (xs[i]? : Option _) = some (xs[i]'(by omega)) from by simp [show i < xs.length by omega]] at hi'
    obtain ⟨n, hn, _, hw⟩ := DataW.trod_int Yba.underlying5 hi'
    simp at hn
    refine ⟨n, ?_, hw⟩
    rw [Array.getElem?_eq_getElem (by omega)]
    exact congrArg some hn
  obtain ⟨a2, len2, cap2, rfl⟩ := okWide_slice Yba.underlying23 (hval 2 23 v2 rfl rfl)
  obtain ⟨z2, w2⟩ : ∃ zs, IsRow W a2 len2 cap2 zs := by
    obtain ⟨fuel, hf⟩ := h2
    rcases open_ints Yba.underlying23 Yba.underlying21 (by kernel_rfl) hf with ⟨hcs, _⟩ | ⟨x, l, c, zs, hcs, _, hl, hm, hz, _, hcell, hwz⟩
    · simp [Value.cells] at hcs
      obtain ⟨rfl, rfl, rfl⟩ := hcs
      exact ⟨[], .inl ⟨rfl, rfl, rfl, rfl⟩⟩
    · simp [Value.cells] at hcs
      obtain ⟨rfl, rfl, rfl⟩ := hcs
      exact ⟨zs, .inr ⟨_, rfl, hl, hm, by simpa using hz, hcell⟩⟩
  obtain ⟨a3, len3, cap3, rfl⟩ := okWide_slice Yba.underlying24 (hval 3 24 v3 rfl rfl)
  obtain ⟨hl3, w3⟩ : len3 ≤ maxLen ∧ FailsAt W a3 len3 := by
    obtain ⟨fuel, hf⟩ := h3
    rcases DataW.trod_slice Yba.underlying24 hf with ⟨hcs, _⟩ | ⟨a, len, cap, elems, rest, n, _, hcs, _, _, hl, hm, hlen, hel, _, _⟩
    · simp [Value.cells] at hcs
      obtain ⟨rfl, rfl, rfl⟩ := hcs
      exact ⟨Nat.zero_le _, .inl rfl⟩
    · simp [Value.cells] at hcs
      obtain ⟨rfl, rfl, rfl⟩ := hcs
      refine ⟨Nat.le_trans hl hm, ?_⟩
      have each : ∀ i, i < len3 → ∃ b, W.cell? (a.add i) = some (.bool b) := by
        intro i hi
        have h := hel i hi
        rw [cells4, Nat.mul_one, show (elems[i]? : Option _) = some (elems[i]'(by omega)) from by simp [show i < elems.length by omega], Option.bind_eq_some_iff] at h
        obtain ⟨cs', hcs', hy⟩ := h
        obtain ⟨b, rfl, _⟩ := DataW.trod_bool Yba.underlying4 hy
        exact ⟨b, cell_of_cells?_one hcs'⟩
      by_cases h0 : len3 = 0
      · exact .inl h0
      · obtain ⟨b0, hb0⟩ := each 0 (by omega)
        obtain ⟨fb, fo, spot⟩ := a
        have hspot : spot = none := by simpa [Addr.add] using World.cell?_spot hb0
        subst hspot
        have hblk := World.block_lt_of_cell? W _ hb0
        refine .inr ⟨fb, fo, rfl, by simpa [Addr.add] using hblk, fun j hj => ?_⟩
        obtain ⟨b, hb⟩ := each j hj
        exact ⟨b, by rw [← Go.WideShapes.add_plain]; exact hb⟩
  clear hA0 hval0
  refine (walk s0 fs a2 len2 cap2 z2 a3 len3 cap3 W hfs hfb w2 hl3 w3).mono fun e W' ⟨he, bel⟩ => ?_
  subst he
  exact ⟨_, rfl, _, _, _, [], _, [], hW', trodAll_mk1 (shut_bool Yba.underlying4 _), (trodAll_cons_mk (shut_string Yba.underlying9 w0) (trodAll_cons_mk (Below.trod laidOut (by kernel_rfl) (of_decide_eq_true (by kernel_rfl)) k1 bel lt1) (trodAll_cons_mk (Below.trod laidOut (by kernel_rfl) (of_decide_eq_true (by kernel_rfl)) k2 bel lt2) (trodAll_cons_mk (Below.trod laidOut (by kernel_rfl) (of_decide_eq_true (by kernel_rfl)) k3 bel lt3) trodAll_mk0)))), rfl, bel.frame _, fun h => by cases h⟩

theorem over : Rows.lawS6653AWholeRow.holds Yba.pinned (OpenSpec.ofChange Rows.lawS6653AWholeSpec) :=
  OpenClaim.holds_of_wide 3 Yba.f3 rfl rfl rfl rfl rfl rfl rfl ⟨rfl, rfl, rfl, rfl, rfl⟩ rfl rfl rfl rfl rfl (by kernel_rfl) Yba.func3 (by kernel_rfl)
    (of_decide_eq_true (by kernel_rfl)) (by unfold Func.isWrapper; first | (rw [if_pos (by decide +kernel)]; kernel_rfl) | (rw [if_neg (by decide +kernel)]; exact ⟨rfl, rfl⟩))
    (fun os started H enc _ => lifted os started H enc)

theorem proved : Rows.LawS6653AWholeSaid := over
end Go.Proofs.Ybulkegtk.lawS6653AWhole
