/-
  DERIVED. ownerReferences: the frame, the outer loop's relation, omitEmpty at a member.
-/
import Derived.Test.YbulkegvaFmtOwnC
set_option linter.unusedVariables false
namespace Go.Proofs.YbulkegvaFmt
open Go.RowKit Go.Extern.Stop Go.Stop Go.Extern Go.Maps

/-! ### the frame -/
def InMap (Ms : List Mem) (bs : Nat → Nat) (k : Nat) : Prop := ∃ j m, Ms[j]? = some m ∧ m.isMap ∧ k = bs j

structure Kpt (Ms : List Mem) (bs : Nat → Nat) (w w' : World) : Prop where
  os : w'.os = w.os
  tape : w'.tape = w.tape
  output : w'.output = w.output
  size : w.heap.size ≤ w'.heap.size
  block : ∀ k, k < w.heap.size → ¬ InMap Ms bs k → w'.heap[k]? = w.heap[k]?

theorem Kpt.below {Ms : List Mem} {bs : Nat → Nat} {w w1 w2 : World} (h : Kpt Ms bs w w1) (hb : Below w.heap.size w1 w2) : Kpt Ms bs w w2 :=
  ⟨hb.os.trans h.os, hb.tape.trans h.tape, hb.output.trans h.output, Nat.le_trans h.size hb.size, fun k hk hn => (hb.block k hk).trans (h.block k hk hn)⟩

theorem Kpt.turned {Ms : List Mem} {bs : Nat → Nat} {w w1 w2 : World} {b : Nat} (h : Kpt Ms bs w w1) (g : w1.grownBy w2 (some b)) (hi : InMap Ms bs b) : Kpt Ms bs w w2 := by
  refine ⟨g.os.trans h.os, g.tape.trans h.tape, g.output.trans h.output, Nat.le_trans h.size g.size, fun k hk hn => ?_⟩
  refine (g.block k (Nat.lt_of_lt_of_le hk h.size) ?_).trans (h.block k hk hn)
  intro e
  cases e
  exact hn hi

def MapsTo (Ms : List Mem) (bs : Nat → Nat) (i : Nat) (w : World) : Prop :=
  ∀ (j : Nat) (m : Mem), Ms[j]? = some m → m.isMap → MapIs w (bs j) (m.f6 (decide (j < i)) (decide (j < i))) (m.c6 (decide (j < i)) (decide (j < i)))

def Good (Ms : List Mem) (i : Nat) : Prop := ∀ (j : Nat) (m : Mem), Ms[j]? = some m → j < i → m.fails = false

structure OI (Ms : List Mem) (bs : Nat → Nat) (br i : Nat) (w wr : World) : Prop where
  good : Good Ms i
  kpt : Kpt Ms bs w wr
  rf : RF Ms br i 0 #[] wr
  maps : MapsTo Ms bs i wr

def OwnPost (Ms : List Mem) (bs : Nat → Nat) (w : World) (e : Ending) (w' : World) : Prop :=
  Kpt Ms bs w w' ∧
    ((∃ i m p, Good Ms i ∧ Ms[i]? = some m ∧ m.fails = true ∧ e = .returned (.tuple #[.slice none 0 0, .iface 37 (.pointer (some ⟨p, 0, none⟩))]) ∧ ErrAt w' p ∧ MapsTo Ms bs i w') ∨
     (Good Ms Ms.length ∧ ∃ br, e = .returned (.tuple #[.slice (some ⟨br, 0, none⟩) Ms.length Ms.length, .nilIface]) ∧ RF Ms br Ms.length 0 #[] w' ∧ MapsTo Ms bs Ms.length w'))

structure Mem.Ok (m : Mem) : Prop where
  k : 0 ≤ m.k
  t0 : 0 ≤ m.t0
  t1 : 0 ≤ m.t1
  t2 : 0 ≤ m.t2
  t3 : 0 ≤ m.t3
  ct : 0 ≤ m.ct
  bt : 0 ≤ m.bt

/-- What is known ahead of the loop. -/
structure OH (F : Interp) (Ms : List Mem) (bs : Nat → Nat) (ba : Nat) (vs : Array Value) (w : World) : Prop where
  ans : F.answers w.tape
  text : ∀ i : Nat, i ≤ 65536 → (FmtStop.textOf (F "fmt.Sprintf" [[109, 101, 116, 97, 100, 97, 116, 97, 46, 111, 119, 110, 101, 114, 82, 101, 102, 101, 114, 101, 110, 99, 101, 115, 91, 37, 100, 93], Ybaf.shape3, Go.Extern.Stop.digits 8 ((i : Int) % 18446744073709551616).toNat] 0)).size ≤ 100
  len : Ms.length ≤ 65536
  ba : w.heap[ba]? = some (.cells vs 20 (0, 0))
  vs : ∀ (i : Nat) (m : Mem), Ms[i]? = some m → vs[i]? = some (m.val (bs i))
  ok : ∀ (i : Nat) (m : Mem), Ms[i]? = some m → m.Ok
  maps : MapsTo Ms bs 0 w
  inj : ∀ (i j : Nat) (mi mj : Mem), Ms[i]? = some mi → Ms[j]? = some mj → mi.isMap → mj.isMap → i ≠ j → bs i ≠ bs j


theorem grown_refl (w : World) (r : Option Nat) : w.grownBy w r := ⟨rfl, rfl, rfl, Nat.le_refl _, fun _ _ _ => rfl⟩

theorem MapsTo.below {Ms : List Mem} {bs : Nat → Nat} {i B : Nat} {w w' : World} (h : MapsTo Ms bs i w) (hb : Below B w w') (hB : ∀ (j : Nat) (m : Mem), Ms[j]? = some m → m.isMap → bs j < B) : MapsTo Ms bs i w' :=
  fun j m hj hm => (h j m hj hm).same (hb.block _ (hB j m hj hm))

theorem OH.lt {F : Interp} {Ms : List Mem} {bs : Nat → Nat} {ba : Nat} {vs : Array Value} {w : World} (h : OH F Ms bs ba vs w) : ∀ (j : Nat) (m : Mem), Ms[j]? = some m → m.isMap → bs j < w.heap.size :=
  fun j m hj hm => (h.maps j m hj hm).lt

theorem own_evil {F : Interp} {Ms : List Mem} {bs : Nat → Nat} {ba br i p : Nat} {vs : Array Value} {w wo wz : World} {m : Mem} (hI : OI Ms bs br i w wo) (hH : OH F Ms bs ba vs w) (hm : Ms[i]? = some m) (hf : m.fails = true)
    (bel : Below w.heap.size wo wz) (he : ErrAt wz p) : OwnPost Ms bs w (.returned (.tuple #[.slice none 0 0, .iface 37 (.pointer (some ⟨p, 0, none⟩))])) wz :=
  ⟨hI.kpt.below bel, Or.inl ⟨i, m, p, hI.good, hm, hf, rfl, he, hI.maps.below bel hH.lt⟩⟩

theorem good_next {Ms : List Mem} {i : Nat} {m : Mem} (h : Good Ms i) (hm : Ms[i]? = some m) (hf : m.fails = false) : Good Ms (i + 1) := by
  intro j mj hj hlt
  by_cases e : j = i
  · subst e; rw [hm] at hj; cases hj; exact hf
  · exact h j mj hj (by omega)

theorem next_nil {F : Interp} {Ms : List Mem} {bs : Nat → Nat} {ba br i : Nat} {vs : Array Value} {w wo wz : World} {m : Mem} (hI : OI Ms bs br i w wo) (hH : OH F Ms bs ba vs w) (hm : Ms[i]? = some m) (hf : m.fails = false)
    (hk : ¬ m.isMap) (bel : Below w.heap.size wo wz) (rf : RF Ms br i 5 m.ref wz) : OI Ms bs br (i + 1) w wz := by
  refine ⟨good_next hI.good hm hf, hI.kpt.below bel, rf.next hm _, ?_⟩
  intro j mj hj hjm
  by_cases e : j = i
  · subst e; rw [hm] at hj; cases hj; exact absurd hjm hk
  · have h1 := (hI.maps.below bel hH.lt) j mj hj hjm
    have e1 : decide (j < i + 1) = decide (j < i) := by simp; omega
    rw [e1]; exact h1

theorem next_map {F : Interp} {Ms : List Mem} {bs : Nat → Nat} {ba br i : Nat} {vs : Array Value} {w wo wy wz : World} {m : Mem} (hI : OI Ms bs br i w wo) (hH : OH F Ms bs ba vs w) (hm : Ms[i]? = some m) (hf : m.fails = false)
    (hk : m.isMap) (hbr : w.heap.size ≤ br) (bel : Below w.heap.size wo wy) (rf : RF Ms br i 5 m.ref wy) (hmp : MapIs wz (bs i) (m.f6 true true) (m.c6 true true)) (g : wy.grownBy wz (some (bs i))) : OI Ms bs br (i + 1) w wz := by
  have hlt := hH.lt i m hm hk
  refine ⟨good_next hI.good hm hf, (hI.kpt.below bel).turned g ⟨i, m, hm, hk, rfl⟩, (rf.next hm _).same (g.block br rf.lt (by intro e; cases e; omega)), ?_⟩
  intro j mj hj hjm
  by_cases e : j = i
  · subst e; rw [hm] at hj; cases hj
    have e1 : decide (j < j + 1) = true := by simp
    rw [e1]; exact hmp
  · have h1 := (hI.maps.below bel hH.lt) j mj hj hjm
    have e1 : decide (j < i + 1) = decide (j < i) := by simp; omega
    rw [e1]
    refine h1.same (g.block (bs j) h1.lt ?_)
    intro e2
    exact hH.inj j i mj m hj hm hjm hk e (Option.some.inj e2)

theorem start_OI {F : Interp} {Ms : List Mem} {bs : Nat → Nat} {ba n : Nat} {vs : Array Value} {w : World} (hH : OH F Ms bs ba vs w) (hn : n = Ms.length) : OI Ms bs w.heap.size 0 w (w.alloc (.cells (madeCells zref (n * 5)) 46)) := by
  have bel : Below w.heap.size w (w.alloc (.cells (madeCells zref (n * 5)) 46)) := (Below.refl _ w).alloc (Nat.le_refl _) _
  refine ⟨fun j m hj hlt => by omega, ⟨bel.os, bel.tape, bel.output, bel.size, fun k hk _ => bel.block k hk⟩, ⟨_, heap_alloc_new w _, ?_, fun x m hx hlt => by omega, fun c hc => by omega⟩, hH.maps.below bel hH.lt⟩
  rw [size_madeCells, hn]

theorem end_OI {Ms : List Mem} {bs : Nat → Nat} {br : Nat} {w wr : World} (hI : OI Ms bs br Ms.length w wr) : OwnPost Ms bs w (.returned (.tuple #[.slice (some ⟨br, 0, none⟩) Ms.length Ms.length, .nilIface])) wr :=
  ⟨hI.kpt, Or.inr ⟨hI.good, br, rfl, hI.rf, hI.maps⟩⟩

theorem start_IN {Ms : List Mem} {bs : Nat → Nat} {i : Nat} {w wo : World} (hI : OI Ms bs w.heap.size i w wo) (o : Obj) (r : Array Value) :
    IN Ms w.heap.size w.heap.size i ((wo.alloc o).drew).heap.size 0 r wo ((((wo.alloc o).drew).alloc (.cells (sbCells w.heap.size i) 64)).drew) := by
  have hlt := hI.rf.lt
  have hs := hI.kpt.size
  have h1 : Below w.heap.size wo ((wo.alloc o).drew) := ((Below.refl _ wo).alloc hs _).drew
  have h2 : w.heap.size ≤ ((wo.alloc o).drew).heap.size := Nat.le_trans hs h1.size
  refine ⟨(h1.alloc h2 _).drew, ?_, heap_alloc_new _ _, Nat.le_refl _, Nat.le_trans h2 (by simp)⟩
  refine (hI.rf.anew r).same ?_
  show (((wo.alloc o).drew).alloc _).heap[w.heap.size]? = _
  rw [Below.heap_alloc _ _ _ (Nat.lt_of_lt_of_le hlt (by show wo.heap.size ≤ ((wo.alloc o).drew).heap.size; simp))]
  show (wo.alloc o).heap[w.heap.size]? = _
  exact Below.heap_alloc _ _ _ hlt

/-- The tag of a field. -/
def Mem.tag (m : Mem) : Nat → Int | 0 => m.t0 | 1 => m.t1 | 2 => m.t2 | _ => m.t3
theorem good_more {m : Mem} {j : Nat} (h : ∀ c : Nat, c < j → ¬ (m.tag c).tmod 4 = 3) (g : ¬ (m.tag j).tmod 4 = 3) : ∀ c : Nat, c < j + 1 → ¬ (m.tag c).tmod 4 = 3 := by
  intro c hc
  by_cases e : c = j
  · subst e; exact g
  · exact h c (by omega)
theorem not_fails {m : Mem} (k2 : ¬ m.k.tmod 4 = 2) (k3 : ¬ m.k.tmod 4 = 3) (gc : ¬ m.ct.tmod 4 = 3) (gb : ¬ m.bt.tmod 4 = 3) (h : ∀ c : Nat, c < 4 → ¬ (m.tag c).tmod 4 = 3) : m.fails = false := by
  have h0 : ¬ m.t0.tmod 4 = 3 := h 0 (by omega)
  have h1 : ¬ m.t1.tmod 4 = 3 := h 1 (by omega)
  have h2 : ¬ m.t2.tmod 4 = 3 := h 2 (by omega)
  have h3 : ¬ m.t3.tmod 4 = 3 := h 3 (by omega)
  simp [Mem.fails, k2, k3, gc, gb, h0, h1, h2, h3]
/-- A cell of the newest block. -/
theorem cell_one_of (w : World) (a b : Value) (c : Nat) {t : TypeId} : (w.alloc (.cells #[a, b] t)).cell? ⟨w.heap.size, c, none⟩ = (#[a, b] : Array Value)[c]? :=
  cell_of_row _ _ _ _ _ _ (heap_alloc_new w _)

theorem nil_look (k : ByteArray) (hk : k.size ≤ maxLen) (w : World) : (Instr.lookup 23 (.map none) (.string k) false).run Ybaf.prog w = .ok .nilIface w :=
  Maps.look_nil (w := w) false law9 Ybaf.underlying23 (zero20 w) (key_of hk)
theorem str_nil0 (k what : ByteArray) (hk : k.size ≤ maxLen) (w : World) : Calls Ybaf.prog 15 #[.map none, .string k, .string what] w fun e w' => e = .returned (.tuple #[.string ⟨#[]⟩, .nilIface]) ∧ w' = w :=
  str_nil (.map none) k what w (nil_look k hk w)
theorem boo_nil0 (k what : ByteArray) (hk : k.size ≤ maxLen) (w : World) : Calls Ybaf.prog 16 #[.map none, .string k, .string what] w fun e w' => e = .returned (.tuple #[.bool false, .nilIface]) ∧ w' = w :=
  boo_nil (.map none) k what w (nil_look k hk w)

/-! ### omitEmpty at a member -/
theorem omit_c (m : Mem) (b kb : Nat) (w : World) (h : MapIs w b (m.f6 false false) (m.c6 false false)) (o : m.Ok) (nc : ¬ m.ct.tmod 4 = 3) (nb : ¬ m.bt.tmod 4 = 3) (hkl : kb < w.heap.size) (hkb : kb ≠ b)
    (c0 : w.cell? ⟨kb, 0, none⟩ = some (.string ⟨#[99, 111, 110, 116, 114, 111, 108, 108, 101, 114]⟩)) (c1 : w.cell? ⟨kb, 1, none⟩ = some (.string ⟨#[98, 108, 111, 99, 107, 79, 119, 110, 101, 114, 68, 101, 108, 101, 116, 105, 111, 110]⟩)) :
    Calls Ybaf.prog 17 #[.map (some b), .slice (some ⟨kb, 0, none⟩) 2 2] w fun e w' => e = .returned (.tuple #[]) ∧ MapIs w' b (m.f6 true true) (m.c6 true true) ∧ w.grownBy w' (some b) := by
  have aC := m.atC false false
  have aB := m.atB false false
  by_cases hc : m.ct.tmod 4 = 2
  · have eC : (m.f6 false false KC).getD .nilIface = .iface 4 (.bool m.cb) := by rw [aC]; simp [bent, bval, hc]
    have sC : bent true m.ct m.cb = bent false m.ct m.cb := by simp [bent, hc]
    by_cases hb : m.bt.tmod 4 = 2
    · have eB : (m.f6 false false KB).getD .nilIface = .iface 4 (.bool m.bb) := by rw [aB]; simp [bent, bval, hb]
      have sB : bent true m.bt m.bb = bent false m.bt m.bb := by simp [bent, hb]
      refine (omit_kk b _ _ KC KB kb w sKC sKB kbc h hkl hkb c0 c1 _ _ eC eB).mono ?_
      rintro e w' ⟨rfl, rfl⟩
      refine ⟨rfl, ?_, grown_refl _ _⟩
      unfold Mem.f6 Mem.f5 Mem.c6 Mem.c5
      rw [sC, sB]; exact h
    · have eB : (m.f6 false false KB).getD .nilIface = .nilIface := by
        rw [aB]; rcases tmod_four o.bt with g | g | g | g <;> simp_all [bent, bval]
      have sB : bent true m.bt m.bb = none := by
        rcases tmod_four o.bt with g | g | g | g <;> simp_all [bent]
      refine (omit_kd b _ _ KC KB kb w sKC sKB kbc h hkl hkb c0 c1 _ eC eB).mono ?_
      rintro e w' ⟨rfl, hM, ht⟩
      refine ⟨rfl, ?_, ht.grown⟩
      have ec : less (m.f6 false false KB) (m.c6 false false) = m.c6 true true := by
        rw [aB]; unfold Mem.c6 Mem.c5 less cn; rw [sC, sB]
        cases bent false m.bt m.bb <;> simp
      rw [ec] at hM
      refine hM.congr fun x => ?_
      unfold Mem.f6 Mem.f5 put
      rw [sC, sB]
      split <;> rfl
  · have eC : (m.f6 false false KC).getD .nilIface = .nilIface := by
      rw [aC]; rcases tmod_four o.ct with g | g | g | g <;> simp_all [bent, bval]
    have sC : bent true m.ct m.cb = none := by
      rcases tmod_four o.ct with g | g | g | g <;> simp_all [bent]
    by_cases hb : m.bt.tmod 4 = 2
    · have eB : (m.f6 false false KB).getD .nilIface = .iface 4 (.bool m.bb) := by rw [aB]; simp [bent, bval, hb]
      have sB : bent true m.bt m.bb = bent false m.bt m.bb := by simp [bent, hb]
      refine (omit_dk b _ _ KC KB kb w sKC sKB kbc h hkl hkb c0 c1 _ eC eB).mono ?_
      rintro e w' ⟨rfl, hM, ht⟩
      refine ⟨rfl, ?_, ht.grown⟩
      have ec : less (m.f6 false false KC) (m.c6 false false) = m.c6 true true := by
        rw [aC]; unfold Mem.c6 Mem.c5 less cn; rw [sC, sB]
        cases bent false m.ct m.cb <;> simp <;> omega
      rw [ec] at hM
      refine hM.congr fun x => ?_
      unfold Mem.f6 Mem.f5 put
      rw [sC, sB]
      by_cases hx : x = KC
      · subst hx; simp [kbc.symm]
      · simp [hx]
    · have eB : (m.f6 false false KB).getD .nilIface = .nilIface := by
        rw [aB]; rcases tmod_four o.bt with g | g | g | g <;> simp_all [bent, bval]
      have sB : bent true m.bt m.bb = none := by
        rcases tmod_four o.bt with g | g | g | g <;> simp_all [bent]
      refine (omit_dd b _ _ KC KB kb w sKC sKB kbc h hkl hkb c0 c1 eC eB).mono ?_
      rintro e w' ⟨rfl, hM, ht⟩
      refine ⟨rfl, ?_, ht.grown⟩
      have ec : less (m.f6 false false KB) (less (m.f6 false false KC) (m.c6 false false)) = m.c6 true true := by
        rw [aB, aC]; unfold Mem.c6 Mem.c5 less cn; rw [sC, sB]
        cases bent false m.ct m.cb <;> cases bent false m.bt m.bb <;> simp <;> omega
      rw [ec] at hM
      refine hM.congr fun x => ?_
      unfold Mem.f6 Mem.f5 put
      rw [sC, sB]
      by_cases hx : x = KB
      · simp [hx]
      · by_cases hy : x = KC
        · simp [hy]
        · simp [hx, hy]

end Go.Proofs.YbulkegvaFmt
