/-
  What the law's walk leans on: the Remote's cells, the array of 32 bytes, the building loop's step.
-/
import Derived.Test.YbulkegtkClose
import Derived.Laws.Tables
import Derived.DeepKeys
import Derived.Deep.MidRow
import Derived.Deep.QuietTactic
import Derived.BigQuiet
namespace Go.Proofs.Ybulkegtk
open Go.RowKit
set_option linter.unusedVariables false

theorem list32 {α : Type} (l : List α) (h : l.length = 32) : ∃ f0 f1 f2 f3 f4 f5 f6 f7 f8 f9 f10 f11 f12 f13 f14 f15 f16 f17 f18 f19 f20 f21 f22 f23 f24 f25 f26 f27 f28 f29 f30 f31, l = [f0, f1, f2, f3, f4, f5, f6, f7, f8, f9, f10, f11, f12, f13, f14, f15, f16, f17, f18, f19, f20, f21, f22, f23, f24, f25, f26, f27, f28, f29, f30, f31] := by
  match l, h with
  | [f0, f1, f2, f3, f4, f5, f6, f7, f8, f9, f10, f11, f12, f13, f14, f15, f16, f17, f18, f19, f20, f21, f22, f23, f24, f25, f26, f27, f28, f29, f30, f31], _ => exact ⟨_, _, _, _, _, _, _, _, _, _, _, _, _, _, _, _, _, _, _, _, _, _, _, _, _, _, _, _, _, _, _, _, rfl⟩

/-- The cells of a Remote as the law builds it. -/
def RC (addr : ByteArray) (fs : Array Value) (v : Value) : Array Value := (Value.string addr :: .pointer none :: (fs.toList ++ [.int .i64 30000000000, .int .i32 0, .int .u32 0, v])).toArray

theorem built47 (addr : ByteArray) (fs : Array Value) (a : Option Addr) (n c : Nat) (h : fs.size = 32) :
    Yba.prog.built 47 [(0, .string addr), (2, .agg fs), (3, .int .i64 30000000000), (5, .slice a n c)] = some (RC addr fs (.slice a n c)) := by
  obtain ⟨l⟩ := fs
  obtain ⟨f0, f1, f2, f3, f4, f5, f6, f7, f8, f9, f10, f11, f12, f13, f14, f15, f16, f17, f18, f19, f20, f21, f22, f23, f24, f25, f26, f27, f28, f29, f30, f31, rfl⟩ := list32 l (by simpa using h)
  clear h
  kernel_rfl

theorem RC_size (addr : ByteArray) (fs : Array Value) (v : Value) (h : fs.size = 32) : (RC addr fs v).size = 38 := by simp [RC, h]
theorem RC_at (addr : ByteArray) (fs : Array Value) (v : Value) (h : fs.size = 32) : (RC addr fs v)[0]? = some (.string addr) ∧ (RC addr fs v)[1]? = some (.pointer none) ∧ (∀ i, i < 32 → (RC addr fs v)[2 + i]? = fs[i]?) ∧
    (RC addr fs v)[34]? = some (.int .i64 30000000000) ∧ (RC addr fs v)[35]? = some (.int .i32 0) ∧ (RC addr fs v)[37]? = some v := by
  have hl : fs.toList.length = 32 := by simpa using h
  refine ⟨rfl, rfl, fun i hi => ?_, ?_, ?_, ?_⟩
  · unfold RC
    rw [List.getElem?_toArray, show 2 + i = i + 1 + 1 from by omega, List.getElem?_cons_succ, List.getElem?_cons_succ, List.getElem?_append_left (by omega)]
    simp
  · unfold RC
    rw [List.getElem?_toArray, show 34 = 32 + 1 + 1 from rfl, List.getElem?_cons_succ, List.getElem?_cons_succ, List.getElem?_append_right (by omega), hl]
    rfl
  · unfold RC
    rw [List.getElem?_toArray, show 35 = 33 + 1 + 1 from rfl, List.getElem?_cons_succ, List.getElem?_cons_succ, List.getElem?_append_right (by omega), hl]
    rfl
  · unfold RC
    rw [List.getElem?_toArray, show 37 = 35 + 1 + 1 from rfl, List.getElem?_cons_succ, List.getElem?_cons_succ, List.getElem?_append_right (by omega), hl]
    rfl

/-- 'T{..}', by what the table says of it. -/
theorem wpList_build {P : Program} (w : World) {ops : Array Oper} {rest : List Oper} {o : Oper} {a : Act} {Q : Exit → Act → World → Prop} (hg : o.guard = none) (t : TypeId) (parts : Array (Nat × Operand)) (ho : o.op = .build t parts)
    (l : List (Nat × Value)) (hl : (parts.map fun (i, x) => (i, a.eval x)).toList = l) (cells : Array Value) (hc : P.built t l = some cells) (h : wpList P ops Q rest (a.put o.dst (.agg cells)) w) : wpList P ops Q (o :: rest) a w :=
  wpList_plain hg fun _ hK => wp_build t parts ho (by rw [hl, hc]; rfl) (by rw [hl, hc]; exact hK _ _ h)

theorem load_fp {w : World} {b o : Nat} {fs : Array Value} (h : ∀ i, i < 32 → w.cell? ⟨b, o + i, none⟩ = fs[i]?) (hs : fs.size = 32) :
    (loadCellsFrom ⟨b, o, none⟩ 0 32 #[]).run Yba.prog w = .ok fs w := by
  have := run_loadCells_list (P := Yba.prog) w ⟨b, o, none⟩ fs.toList (fun j v hv => by
    have hadd : (⟨b, o, none⟩ : Addr).add j = ⟨b, o + j, none⟩ := by unfold Addr.add; split <;> simp_all
    have hj : j < 32 := by have := (List.getElem?_eq_some_iff.1 hv).1; simp at this; omega
    rw [hadd, h j hj]; simpa using hv)
  simpa [loadCells, hs] using this

theorem mapM_some {α β : Type} (f : α → Option β) : ∀ (l : List α), (∀ i ∈ l, ∃ y, f i = some y) → ∃ ys, l.mapM f = some ys
  | [], _ => ⟨[], rfl⟩
  | a :: l, h => by
    obtain ⟨y, hy⟩ := h a (by simp)
    obtain ⟨ys, hys⟩ := mapM_some f l (fun i hi => h i (by simp [hi]))
    exact ⟨y :: ys, by simp [List.mapM_cons, hy, hys]⟩

theorem cells22 : Yba.prog.cellsOf 22 = 32 := by kernel_rfl
theorem isz22 : (Yba.prog.info? 22).map (·.size) = some 32 := by kernel_rfl
theorem cells5 : Yba.prog.cellsOf 5 = 1 := by kernel_rfl

/-- An array of bytes is itself. -/
theorem eq22 (fs : Array Value) (hs : fs.size = 32) (hb : ∀ i, i < 32 → ∃ x, fs[i]? = some (.int .u8 x) ∧ (Lit.int .u8 x).wf = true) (w : World) :
    (Op.equalIn 10000 22 (.agg fs) (.agg fs)).run Yba.prog w = .ok true w := by
  obtain ⟨ys, hys⟩ := mapM_some (fun i => Yba.prog.keyLits 2 5 ((fs.toList.drop (i * Yba.prog.cellsOf 5)).take (Yba.prog.cellsOf 5))) (List.range 32) (fun i hi => by
    have hi' : i < 32 := List.mem_range.1 hi
    obtain ⟨x, hx, hw⟩ := hb i hi'
    have hx' : fs.toList[i]? = some (.int .u8 x) := by simpa using hx
    refine ⟨[.int .u8 x], ?_⟩
    have e : (fs.toList.drop (i * Yba.prog.cellsOf 5)).take (Yba.prog.cellsOf 5) = [.int .u8 x] := by
      rw [cells5, Nat.mul_one]
      obtain ⟨hlt, hv⟩ := List.getElem?_eq_some_iff.1 hx'
      rw [List.drop_eq_getElem_cons hlt, hv]; rfl
    rw [e]
    simp [Program.keyLits, Yba.underlying5, hw])
  have hL : Yba.prog.keyLits 3 22 (Value.agg fs).cells.toList = some ys.flatten := by
    unfold Program.keyLits
    simp only [Yba.underlying22, Value.cells, Array.length_toList, hs, cells22, if_true]
    rw [hys]; rfl
  have hf : (Value.agg fs).formed Yba.prog 22 = true := by simp [Value.formed, Yba.underlying22, cells22, hs]
  obtain ⟨r, hr, hiff⟩ := run_equalIn_deep (P := Yba.prog) 9998 2 22 (by kernel_rfl) w 3 3 (.agg fs) (.agg fs) _ _ hf hf hL hL
  rw [hiff.2 rfl] at hr
  exact hr

/-! ### The building loop -/
theorem info26 : (Yba.prog.info? 26).map (fun i => (i.zero, i.size, i.bytes)) = some (some (.pointer none), 1, 8) := by kernel_rfl

theorem Conns.alloc {w : World} {L : Nat} {ids : List Int} {ps : List (Nat × Nat)} (h : Conns w L ids ps) (o : Obj) : Conns (w.alloc o) L ids ps := by
  refine ⟨h.1, fun j p q id hp hi => ?_⟩
  obtain ⟨b, h1, h2⟩ := h.2 j p q id hp hi
  exact ⟨b, (Below.heap_alloc w o p (lt_of_block h1)).trans h1, (Below.heap_alloc w o q (lt_of_block h2)).trans h2⟩

theorem Conns.grown {w w' : World} {L base n : Nat} {v : Value} {xs : List Value} {ids : List Int} {ps : List (Nat × Nat)} (h : Conns w L ids ps) (hown : w.ownsRow base 26 1 v n xs) (hg : w.grownBy w' v.ownBlock) : Conns w' L ids ps := by
  refine ⟨h.1, fun j p q id hp hi => ?_⟩
  obtain ⟨b, h1, h2⟩ := h.2 j p q id hp hi
  exact ⟨b, (hg.block p (lt_of_block h1) (Ne.symm (row_ne hown h1 (by decide)))).trans h1, (hg.block q (lt_of_block h2) (Ne.symm (row_ne hown h2 (by decide)))).trans h2⟩

theorem Conns.snoc {w : World} {L : Nat} {ids : List Int} {ps : List (Nat × Nat)} (h : Conns w L ids ps) {p q : Nat} {id : Int} {b : Bool}
    (h1 : w.heap[p]? = some (.cells #[.iface 27 (.pointer (some ⟨q, 0, none⟩)), .pointer none] 35 (0, 0)))
    (h2 : w.heap[q]? = some (.cells #[.pointer none, .int .i32 id, .bool b, .pointer (some ⟨L, 0, none⟩)] 30 (0, 0))) : Conns w L (ids ++ [id]) (ps ++ [(p, q)]) := by
  refine ⟨by simp [h.1], fun j p' q' id' hp hi => ?_⟩
  by_cases hj : j < ids.length
  · rw [List.getElem?_append_left (by rw [h.1]; exact hj)] at hp
    rw [List.getElem?_append_left hj] at hi
    exact h.2 j p' q' id' hp hi
  · have hj' : j = ids.length := by
      have := (List.getElem?_eq_some_iff.1 hi).1
      simp at this; omega
    subst hj'
    rw [List.getElem?_append_right (by rw [h.1]; omega), h.1] at hp
    rw [List.getElem?_append_right (by omega)] at hi
    simp at hp hi
    obtain ⟨rfl, rfl⟩ := hp
    subst hi
    exact ⟨b, h1, h2⟩

/-- The state of the building loop behind k rounds. -/
def Building (w0 : World) (B : Nat) (ids : List Int) (k : Nat) (v : Value) (wr : World) : Prop :=
  ∃ ps g cap, v = .slice (some ⟨g, 0, none⟩) k cap ∧ wr.ownsRow (B + 2) 26 1 v k (ps.map fun p : Nat × Nat => ptr p.1) ∧ Conns wr (B + 1) (ids.take k) ps ∧ Below (B + 2) w0 wr ∧ w0.heap.size = B + 2

theorem building_step {w0 wr w1 : World} {B k g cap g' cap' : Nat} {ids : List Int} {ps : List (Nat × Nat)} {id : Int} {b : Bool} {o : Obj} (hid : ids[k]? = some id)
    (hown : wr.ownsRow (B + 2) 26 1 (.slice (some ⟨g, 0, none⟩) k cap) k (ps.map fun p : Nat × Nat => ptr p.1)) (hC : Conns wr (B + 1) (ids.take k) ps) (hB : Below (B + 2) w0 wr) (h0 : w0.heap.size = B + 2)
    (hown1 : w1.ownsRow (B + 2) 26 1 (.slice (some ⟨g', 0, none⟩) (k + 1) cap') (k + 1) ((ps.map fun p : Nat × Nat => ptr p.1) ++ [.pointer (some ⟨wr.heap.size + 1, 0, none⟩)]))
    (hgrow : (((wr.alloc (.cells #[.pointer none, .int .i32 id, .bool b, .pointer (some ⟨B + 1, 0, none⟩)] 30)).alloc (.cells #[.iface 27 (.pointer (some ⟨wr.heap.size, 0, none⟩)), .pointer none] 35)).alloc o).grownBy w1 (some g)) :
    Building w0 B ids (k + 1) (.slice (some ⟨g', 0, none⟩) (k + 1) cap') w1 := by
  have hsz := hB.size
  refine ⟨ps ++ [(wr.heap.size + 1, wr.heap.size)], g', cap', rfl, by simpa [ptr] using hown1, ?_, ?_, h0⟩
  · have e : ids.take (k + 1) = ids.take k ++ [id] := by rw [List.take_add_one, hid]; rfl
    rw [e]
    have hown' := ((hown.alloc (.cells #[.pointer none, .int .i32 id, .bool b, .pointer (some ⟨B + 1, 0, none⟩)] 30)).alloc (.cells #[.iface 27 (.pointer (some ⟨wr.heap.size, 0, none⟩)), .pointer none] 35)).alloc o
    refine Conns.grown (v := .slice (some ⟨g, 0, none⟩) k cap) (Conns.snoc (b := b) (((hC.alloc _).alloc _).alloc _) ?_ ?_) hown' hgrow
    · rw [Below.heap_alloc _ _ _ (by simp)]
      have := heap_alloc_new (wr.alloc (.cells #[.pointer none, .int .i32 id, .bool b, .pointer (some ⟨B + 1, 0, none⟩)] 30)) (.cells #[.iface 27 (.pointer (some ⟨wr.heap.size, 0, none⟩)), .pointer none] 35)
      simpa using this
    · rw [Below.heap_alloc _ _ _ (by simp; omega), Below.heap_alloc _ _ _ (by simp)]
      exact heap_alloc_new wr _
  · have hg : B + 2 ≤ g := (hown.lt g rfl).1
    exact (((hB.alloc (by omega) _).alloc (by simp; omega) _).alloc (by simp; omega) _).grown hgrow (by simp; omega) (fun k' e => by cases e; exact hg)

/-! ### Behind a Close -/
theorem setCell_back {w : World} {R i : Nat} {cs : Array Value} {t : TypeId} {fr : Nat × Nat} {x y : Value} (hR : w.heap[R]? = some (.cells cs t fr)) (hi : cs[i]? = some x) :
    (w.setCell ⟨R, i, none⟩ y).setCell ⟨R, i, none⟩ x = w := by
  have hlt := lt_of_block hR
  have hv : w.heap[R] = .cells cs t fr := (Array.getElem?_eq_some_iff.1 hR).2
  obtain ⟨hil, hix⟩ := Array.getElem?_eq_some_iff.1 hi
  have e : ((w.setCell ⟨R, i, none⟩ y).setCell ⟨R, i, none⟩ x).heap = w.heap := by
    apply Array.ext_getElem?
    intro k
    by_cases hk : k = R
    · subst hk
      simp only [World.setCell, Array.getElem?_modify, hR]
      simp
      apply Array.ext_getElem?
      intro j
      by_cases hj : i = j
      · subst hj; simp [hil, hix]
      · simp [hj]
    · rw [Below.heap_setCell _ _ _ _ hk, Below.heap_setCell _ _ _ _ hk]
  show { w with heap := ((w.setCell ⟨R, i, none⟩ y).setCell ⟨R, i, none⟩ x).heap } = w
  rw [e]

/-- What the law reads of the Remote behind a Close. -/
structure After (w2 : World) (R B : Nat) (addr : ByteArray) (fs cs2 : Array Value) : Prop where
  hR : w2.heap[R]? = some (.cells cs2 47 (0, 0))
  a35 : cs2[35]? = some (.int .i32 0)
  a37 : cs2[37]? = some (.slice none 0 0)
  c0 : w2.cell? ⟨R, 0, none⟩ = some (.string addr)
  c1 : w2.cell? ⟨R, 1, none⟩ = some (.pointer none)
  cf : ∀ i, i < 32 → w2.cell? ⟨R, 2 + i, none⟩ = fs[i]?
  c34 : w2.cell? ⟨R, 34, none⟩ = some (.int .i64 30000000000)
  cF : ∀ i, i < 32 → w2.cell? ⟨B, 0 + i, none⟩ = fs[i]?

theorem after_of {w w2 : World} {R B : Nat} {addr : ByteArray} {fs : Array Value} {v : Value} {xs ids : List Int} (hfs : fs.size = 32) (h : Closed w w2 R (B + 1) (B + 2) (RC addr fs v) xs ids)
    (hF : w.heap[B]? = some (.cells fs 22 (0, 0))) : ∃ cs2, After w2 R B addr fs cs2 := by
  obtain ⟨cs2, hR, hs, h37, hi⟩ := h.rem
  obtain ⟨r0, r1, rf, r34, r35, r37⟩ := RC_at addr fs v hfs
  have hF2 : w2.heap[B]? = some (.cells fs 22 (0, 0)) := (h.low B (by omega) (by omega)).trans hF
  refine ⟨cs2, hR, (hi 35 (by decide)).trans r35, h37, ?_, ?_, fun i hi' => ?_, ?_, fun i hi' => ?_⟩
  · rw [cell_of_block hR, hi 0 (by decide), r0]
  · rw [cell_of_block hR, hi 1 (by decide), r1]
  · rw [cell_of_block hR, hi (2 + i) (by omega), rf i hi']
  · rw [cell_of_block hR, hi 34 (by decide), r34]
  · rw [cell_of_block hF2, Nat.zero_add]

theorem Closed.below {w w2 : World} {R L base : Nat} {cs : Array Value} {xs ids : List Int} (h : Closed w w2 R L base cs xs ids) {B : Nat} (hB : B ≤ L) (hb : B ≤ base) : Below B w w2 :=
  ⟨h.os, h.tape, h.output, h.size, fun k hk => h.low k (by omega) (by omega)⟩

/-- The log's value: a slice of as many elements as were logged; its cells. -/
theorem Log.form {w : World} {L base : Nat} {xs : List Int} (h : Log w L base xs) : ∃ la lc, w.cell? ⟨L, 0, none⟩ = some (.slice la xs.length lc) ∧ (0 < xs.length → ∃ g, la = some ⟨g, 0, none⟩ ∧ ∀ j, j < xs.length → w.cell? ⟨g, j, none⟩ = some (.int .i32 (xs.getD j 0))) := by
  obtain ⟨lv, h1, h2⟩ := h
  have hc : w.cell? ⟨L, 0, none⟩ = some lv := by rw [cell_of_block h1]; rfl
  rcases h2.2 with ⟨rfl, h0⟩ | ⟨g, cap, cur, rfl, _, hg, _, _, _, htake⟩
  · exact ⟨none, 0, by rw [hc, h0], fun h => by omega⟩
  · refine ⟨_, cap, hc, fun _ => ⟨g, rfl, fun j hj => ?_⟩⟩
    rw [cell_of_block hg]
    have e : (cur.toList.take (xs.length * 1))[j]? = some (.int .i32 (xs.getD j 0)) := by rw [htake]; simp [List.getD, hj]
    rw [List.getElem?_take, if_pos (by omega)] at e
    simpa using e

/-- A whole array of 32 bytes, read in a quiet walk. -/
theorem quiet_load_fp {o : Oper} {a : Act} {K : Act → Prop} {W : World} (x : Operand) (ho : o.op = .load 22 x) (b of : Nat) (hx : a.eval x = .pointer (some ⟨b, of, none⟩)) (fs : Array Value) (hs : fs.size = 32)
    (hc : ∀ i, i < 32 → W.cell? ⟨b, of + i, none⟩ = fs[i]?) (hk : K (a.put o.dst (.agg fs))) : o.quiet Yba.prog a (fun w' => ∃ n, w' = W.drewN n) K := by
  refine ⟨_, fun w hw => ?_, hk⟩
  obtain ⟨n, rfl⟩ := hw
  have hr : (W.drewN n).rangeAt b of fs.toList := fun j v hv => by
    have hj : j < 32 := by have := (List.getElem?_eq_some_iff.1 hv).1; simp at this; omega
    have := hc j hj
    show W.cell? ⟨b, of + j, none⟩ = some v
    rw [this]; simpa using hv
  have hrun := run_loadAt_mid (P := Yba.prog) (W.drewN n) b of 22 fs.toList (.array 32 5) hr Yba.underlying22 rfl (by rw [Array.length_toList, hs]; exact isz22)
  unfold Oper.quietAt execOp
  simp only [ho, hx, Sem.run_bind, hrun, Result.andThen_ok]
  exact ⟨rfl, by simp⟩
theorem wpList_load_fp {ops : Array Oper} {rest : List Oper} {o : Oper} {a : Act} {w : World} {Q : Exit → Act → World → Prop} (hg : o.guard = none) (x : Operand) (ho : o.op = .load 22 x) (b of : Nat) (hx : a.eval x = .pointer (some ⟨b, of, none⟩)) (fs : Array Value) (hs : fs.size = 32)
    (hc : ∀ i, i < 32 → w.cell? ⟨b, of + i, none⟩ = fs[i]?) (h : wpList Yba.prog ops Q rest (a.put o.dst (.agg fs)) w) : wpList Yba.prog ops Q (o :: rest) a w := by
  have hr : w.rangeAt b of fs.toList := fun j v hv => by
    have hj : j < 32 := by have := (List.getElem?_eq_some_iff.1 hv).1; simp at this; omega
    rw [hc j hj]; simpa using hv
  exact wpList_load_mid hg 22 x ho b of hx fs.toList (.array 32 5) hr Yba.underlying22 rfl (by rw [Array.length_toList, hs]; exact isz22) (by simpa using h)
end Go.Proofs.Ybulkegtk
