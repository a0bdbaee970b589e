/-
  DERIVED. What ownerReferences keeps: frames, the row of references, the fields by their contracts.
-/
import Derived.Test.YbulkegvaFmtCheck
import Derived.Test.YbulkegvaFmtRef
import Derived.Laws.MakeOwn
set_option linter.unusedVariables false
namespace Go.Proofs.YbulkegvaFmt
open Go.RowKit Go.Extern.Stop Go.Stop Go.Extern Go.Maps

/-! ### make -/
def zref : Array Value := #[.string ⟨#[]⟩, .string ⟨#[]⟩, .string ⟨#[]⟩, .string ⟨#[]⟩, .bool false]
theorem info46 : (Ybaf.prog.info? 46).map (fun i => (i.zero, i.size, i.bytes)) = some (some (.agg zref), 5, 72) := by kernel_rfl
theorem info20 : (Ybaf.prog.info? 20).map (fun i => (i.zero, i.size, i.bytes)) = some (some .nilIface, 1, 16) := by kernel_rfl

theorem mk31 (n : Nat) (hn : n ≤ 65536) (w : World) : (Instr.makeSlice 31 (.int .i64 n) (.int .i64 n)).run Ybaf.prog w = .ok (.slice (some ⟨w.heap.size, 0, none⟩) n n) (w.alloc (.cells (madeCells zref (n * 5)) 46)) := by
  obtain ⟨i, hi, h1, h2, h3⟩ : ∃ i, Ybaf.prog.info? 46 = some i ∧ i.zero = some (.agg zref) ∧ i.size = 5 ∧ i.bytes = 72 := by
    have h := info46
    cases hq : Ybaf.prog.info? 46 with
    | none => rw [hq] at h; cases h
    | some i => rw [hq] at h; simp at h; exact ⟨i, rfl, h.1, h.2.1, h.2.2⟩
  have := run_makeSlice (P := Ybaf.prog) w 31 46 i (.agg zref) Ybaf.underlying31 hi h1 .i64 .i64 (n : Int) (n : Int) (by omega) (by omega) (by rw [h2]; simp; omega) (by rw [h3]; omega) (by omega)
  rw [h2] at this
  simpa [Value.cells] using this

theorem mk24 (n : Nat) (hn : n ≤ 65536) (w : World) : (Instr.makeSlice 24 (.int .i64 n) (.int .i64 n)).run Ybaf.prog w = .ok (.slice (some ⟨w.heap.size, 0, none⟩) n n) (w.alloc (.cells (madeCells #[.nilIface] n) 20)) := by
  obtain ⟨i, hi, h1, h2, h3⟩ : ∃ i, Ybaf.prog.info? 20 = some i ∧ i.zero = some .nilIface ∧ i.size = 1 ∧ i.bytes = 16 := by
    have h := info20
    cases hq : Ybaf.prog.info? 20 with
    | none => rw [hq] at h; cases h
    | some i => rw [hq] at h; simp at h; exact ⟨i, rfl, h.1, h.2.1, h.2.2⟩
  have := run_makeSlice (P := Ybaf.prog) w 24 20 i .nilIface Ybaf.underlying24 hi h1 .i64 .i64 (n : Int) (n : Int) (by omega) (by omega) (by rw [h2]; simp; omega) (by rw [h3]; omega) (by omega)
  rw [h2] at this
  simpa [Value.cells] using this

/-! ### a member whose fields are looked up: a nil map, or a map -/
def Look (w : World) (mv : Value) (g : ByteArray → Option Value) : Prop :=
  (mv = .map none ∧ ∀ k, g k = none) ∨ ∃ b n, mv = .map (some b) ∧ MapIs w b g n

theorem Look.run {w : World} {mv : Value} {g : ByteArray → Option Value} (h : Look w mv g) {k : ByteArray} (hk : k.size ≤ maxLen) :
    (Instr.lookup 23 mv (.string k) false).run Ybaf.prog w = .ok ((g k).getD .nilIface) w := by
  rcases h with ⟨rfl, hg⟩ | ⟨b, n, rfl, hm⟩
  · rw [hg k]
    exact Maps.look_nil (w := w) false law9 Ybaf.underlying23 (zero20 w) (key_of hk)
  · exact hm.look hk

theorem Look.below {B : Nat} {w w' : World} {mv : Value} {g : ByteArray → Option Value} (h : Look w mv g) (hb : Below B w w') (hB : ∀ b, mv = .map (some b) → b < B) : Look w' mv g := by
  rcases h with ⟨rfl, hg⟩ | ⟨b, n, rfl, hm⟩
  · exact Or.inl ⟨rfl, hg⟩
  · exact Or.inr ⟨b, n, rfl, hm.same (hb.block b (hB b rfl))⟩

theorem tmod_four {t : Int} (h : 0 ≤ t) : t.tmod 4 = 0 ∨ t.tmod 4 = 1 ∨ t.tmod 4 = 2 ∨ t.tmod 4 = 3 := by
  have h1 := Int.tmod_nonneg 4 h
  have h2 := Int.tmod_lt_of_pos t (b := 4) (by omega)
  omega

theorem str_good (mv : Value) (k what : ByteArray) (t : Int) (s : ByteArray) (w : World) (h0 : 0 ≤ t) (h3 : ¬ t.tmod 4 = 3) (hl : (Instr.lookup 23 mv (.string k) false).run Ybaf.prog w = .ok ((sent t s).getD .nilIface) w) :
    Calls Ybaf.prog 15 #[mv, .string k, .string what] w fun e w' => e = .returned (.tuple #[.string (Mem.str t s), .nilIface]) ∧ w' = w := by
  rcases tmod_four h0 with h | h | h | h
  · have e1 : Mem.str t s = ⟨#[]⟩ := by simp [Mem.str, h]
    have e2 : (sent t s).getD .nilIface = .nilIface := by simp [sent, h]
    rw [e2] at hl; rw [e1]; exact str_nil mv k what w hl
  · have e1 : Mem.str t s = ⟨#[]⟩ := by simp [Mem.str, h]
    have e2 : (sent t s).getD .nilIface = .nilIface := by simp [sent, sval, h]
    rw [e2] at hl; rw [e1]; exact str_nil mv k what w hl
  · have e1 : Mem.str t s = s := by simp [Mem.str, h]
    have e2 : (sent t s).getD .nilIface = .iface 9 (.string s) := by simp [sent, sval, h]
    rw [e2] at hl; rw [e1]; exact str_ok mv k what (.string s) w hl
  · exact absurd h h3

theorem boo_good (mv : Value) (k what : ByteArray) (t : Int) (b : Bool) (w : World) (h0 : 0 ≤ t) (h3 : ¬ t.tmod 4 = 3) (hl : (Instr.lookup 23 mv (.string k) false).run Ybaf.prog w = .ok ((bent false t b).getD .nilIface) w) :
    Calls Ybaf.prog 16 #[mv, .string k, .string what] w fun e w' => e = .returned (.tuple #[.bool (if t.tmod 4 = 2 then b else false), .nilIface]) ∧ w' = w := by
  rcases tmod_four h0 with h | h | h | h
  · have e2 : (bent false t b).getD .nilIface = .nilIface := by simp [bent, h]
    have e1 : (if t.tmod 4 = 2 then b else false) = false := by simp [h]
    rw [e2] at hl; rw [e1]; exact boo_nil mv k what w hl
  · have e2 : (bent false t b).getD .nilIface = .nilIface := by simp [bent, bval, h]
    have e1 : (if t.tmod 4 = 2 then b else false) = false := by simp [h]
    rw [e2] at hl; rw [e1]; exact boo_nil mv k what w hl
  · have e2 : (bent false t b).getD .nilIface = .iface 4 (.bool b) := by simp [bent, bval, h]
    have e1 : (if t.tmod 4 = 2 then b else false) = b := by simp [h]
    rw [e2] at hl; rw [e1]; exact boo_ok mv k what (.bool b) w hl
  · exact absurd h h3

theorem str_evil (F : Interp) (mv : Value) (k what : ByteArray) (t : Int) (s : ByteArray) (w : World) (hF : F.answers w.tape) (h3 : t.tmod 4 = 3) (hl : (Instr.lookup 23 mv (.string k) false).run Ybaf.prog w = .ok ((sent t s).getD .nilIface) w) :
    Calls Ybaf.prog 15 #[mv, .string k, .string what] w fun e w' => ∃ p, e = .returned (.tuple #[.string ⟨#[]⟩, .iface 37 (.pointer (some ⟨p, 0, none⟩))]) ∧ w.heap.size ≤ p ∧ ErrAt w' p ∧ Below w.heap.size w w' := by
  have e2 : (sent t s).getD .nilIface = .iface 72 (.float .f64 (floatOfInt .f64 s.size)) := by simp [sent, sval, h3]
  rw [e2] at hl
  exact str_bad F mv k what _ w hF hl

theorem boo_evil (F : Interp) (mv : Value) (k what : ByteArray) (t : Int) (b : Bool) (w : World) (hF : F.answers w.tape) (h3 : t.tmod 4 = 3) (hl : (Instr.lookup 23 mv (.string k) false).run Ybaf.prog w = .ok ((bent false t b).getD .nilIface) w) :
    Calls Ybaf.prog 16 #[mv, .string k, .string what] w fun e w' => ∃ p, e = .returned (.tuple #[.bool false, .iface 37 (.pointer (some ⟨p, 0, none⟩))]) ∧ w.heap.size ≤ p ∧ ErrAt w' p ∧ Below w.heap.size w w' := by
  have e2 : (bent false t b).getD .nilIface = .iface 9 (.string ⟨#[121, 101, 115]⟩) := by simp [bent, bval, h3]
  rw [e2] at hl
  exact boo_bad F mv k what _ w hF hl

/-! ### the row of references -/
def RF (Ms : List Mem) (br i j : Nat) (r : Array Value) (w : World) : Prop :=
  ∃ cs : Array Value, w.heap[br]? = some (.cells cs 46 (0, 0)) ∧ cs.size = Ms.length * 5 ∧
    (∀ (x : Nat) (m : Mem), Ms[x]? = some m → x < i → ∀ c, c < 5 → cs[x * 5 + c]? = m.ref[c]?) ∧ ∀ c, c < j → cs[i * 5 + c]? = r[c]?

theorem RF.same {Ms : List Mem} {br i j : Nat} {r : Array Value} {w w' : World} (h : RF Ms br i j r w) (e : w'.heap[br]? = w.heap[br]?) : RF Ms br i j r w' := by
  obtain ⟨cs, h1, h2⟩ := h
  exact ⟨cs, e.trans h1, h2⟩

theorem RF.lt {Ms : List Mem} {br i j : Nat} {r : Array Value} {w : World} (h : RF Ms br i j r w) : br < w.heap.size := by
  obtain ⟨cs, h1, _⟩ := h
  exact (Array.getElem?_eq_some_iff.1 h1).1

theorem RF.cell {Ms : List Mem} {br i j : Nat} {r : Array Value} {w : World} (h : RF Ms br i j r w) (hi : i < Ms.length) (c : Nat) (hc : c < 5) :
    (∃ u, w.cell? ⟨br, i * 5 + c, none⟩ = some u) ∧ w.frozen? ⟨br, i * 5 + c, none⟩ = false := by
  obtain ⟨cs, h1, h2, _⟩ := h
  have hlt : i * 5 + c < cs.size := by rw [h2]; omega
  refine ⟨⟨cs[i * 5 + c], ?_⟩, ?_⟩
  · rw [cell_of_row w br (i * 5 + c) cs 46 (0, 0) h1]
    exact Array.getElem?_eq_getElem hlt
  · simp [World.frozen?, h1]

theorem heap_setCell_same {w : World} {b : Nat} {cs : Array Value} {t : TypeId} (h : w.heap[b]? = some (.cells cs t (0, 0))) (c : Nat) (v : Value) :
    (w.setCell ⟨b, c, none⟩ v).heap[b]? = some (.cells (cs.setIfInBounds c v) t (0, 0)) := by
  have hb := (Array.getElem?_eq_some_iff.1 h).1
  simp [World.setCell, h, Array.getElem?_modify]

theorem RF.set {Ms : List Mem} {br i j : Nat} {r : Array Value} {w : World} (h : RF Ms br i j r w) (hi : i < Ms.length) (hj : j < 5) (v : Value) (hv : r[j]? = some v) :
    RF Ms br i (j + 1) r (w.setCell ⟨br, i * 5 + j, none⟩ v) := by
  obtain ⟨cs, h1, h2, h3, h4⟩ := h
  refine ⟨_, heap_setCell_same h1 _ _, by simpa using h2, ?_, ?_⟩
  · intro x m hx hlt c hc
    rw [Array.getElem?_setIfInBounds, if_neg (by omega)]
    exact h3 x m hx hlt c hc
  · intro c hc
    rw [Array.getElem?_setIfInBounds]
    by_cases hcj : c = j
    · subst hcj
      rw [if_pos rfl, if_pos (by omega), hv]
    · rw [if_neg (by omega)]
      exact h4 c (by omega)

theorem RF.next {Ms : List Mem} {br i : Nat} {m : Mem} {w : World} (h : RF Ms br i 5 m.ref w) (hm : Ms[i]? = some m) (r : Array Value) : RF Ms br (i + 1) 0 r w := by
  obtain ⟨cs, h1, h2, h3, h4⟩ := h
  refine ⟨cs, h1, h2, ?_, fun c hc => by omega⟩
  intro x m' hx hlt c hc
  by_cases e : x = i
  · subst e
    rw [hm] at hx; cases hx
    exact h4 c hc
  · exact h3 x m' hx (by omega) c hc

theorem RF.anew {Ms : List Mem} {br i j : Nat} {r : Array Value} {w : World} (h : RF Ms br i j r w) (r' : Array Value) : RF Ms br i 0 r' w := by
  obtain ⟨cs, h1, h2, h3, h4⟩ := h
  exact ⟨cs, h1, h2, h3, fun c hc => by omega⟩

end Go.Proofs.YbulkegvaFmt
