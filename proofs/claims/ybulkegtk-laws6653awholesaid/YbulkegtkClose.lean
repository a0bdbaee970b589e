/-
  '(*Remote).Close': it answers nil, sets idle to nil, leaves the lock free and every other field as it was, and closes each connection once, in order.
-/
import Derived.Test.YbulkegtkLocks
import Derived.Test.YbulkegtkConn
import Derived.LoopN
namespace Go.Proofs.Ybulkegtk
open Go.RowKit
set_option linter.unusedVariables false

def ptr (b : Nat) : Value := .pointer (some ⟨b, 0, none⟩)

/-- The connections kept: pointer j leads to a remoteConn whose Conn is a zzs6653aconn that logs ids[j] to L. -/
def Conns (w : World) (L : Nat) (ids : List Int) (ps : List (Nat × Nat)) : Prop :=
  ps.length = ids.length ∧ ∀ (j p q : Nat) (id : Int), ps[j]? = some (p, q) → ids[j]? = some id → ∃ b,
    w.heap[p]? = some (.cells #[.iface 27 (.pointer (some ⟨q, 0, none⟩)), .pointer none] 35 (0, 0)) ∧
    w.heap[q]? = some (.cells #[.pointer none, .int .i32 id, .bool b, .pointer (some ⟨L, 0, none⟩)] 30 (0, 0))

/-- Of w nothing has turned in w' but block L and rows of int32 from 'base' on. -/
structure KeptLog (w w' : World) (L base : Nat) : Prop where
  os : w'.os = w.os
  tape : w'.tape = w.tape
  output : w'.output = w.output
  size : w.heap.size ≤ w'.heap.size
  low : ∀ k, k < base → k ≠ L → w'.heap[k]? = w.heap[k]?
  typed : ∀ k cs t fr, w.heap[k]? = some (.cells cs t fr) → t ≠ 21 → k ≠ L → w'.heap[k]? = some (.cells cs t fr)

theorem KeptLog.refl (w : World) (L base : Nat) : KeptLog w w L base := ⟨rfl, rfl, rfl, Nat.le_refl _, fun _ _ _ => rfl, fun _ _ _ _ h _ _ => h⟩
theorem KeptLog.trans {a b c : World} {L base : Nat} (h : KeptLog a b L base) (k : KeptLog b c L base) : KeptLog a c L base :=
  ⟨k.os.trans h.os, k.tape.trans h.tape, k.output.trans h.output, Nat.le_trans h.size k.size, fun i hi hl => (k.low i hi hl).trans (h.low i hi hl),
    fun i cs t fr hh ht hl => k.typed i cs t fr (h.typed i cs t fr hh ht hl) ht hl⟩
theorem KeptLog.of2 {w w' : World} {L base : Nat} {lv : Value} {m : Nat} {xs : List Value} (hown : w.ownsRow base 21 1 lv m xs) (hb : base ≤ w.heap.size) (h : Kept2 w w' L lv.ownBlock) : KeptLog w w' L base := by
  refine ⟨h.os, h.tape, h.output, h.size, fun k hk hl => h.block k (by omega) hl ?_, fun k cs t fr hh ht hl => ?_⟩
  · intro e
    have := (hown.lt k e.symm).1
    omega
  · rw [h.block k (lt_of_block hh) hl (Ne.symm (row_ne hown hh ht))]
    exact hh
theorem Conns.kept {w w' : World} {L base : Nat} {ids : List Int} {ps : List (Nat × Nat)} (h : Conns w L ids ps) (k : KeptLog w w' L base) (hL : ∃ lv, w.heap[L]? = some (.cells #[lv] 23 (0, 0))) : Conns w' L ids ps := by
  obtain ⟨lv, hL⟩ := hL
  refine ⟨h.1, fun j p q id hp hi => ?_⟩
  obtain ⟨b, h1, h2⟩ := h.2 j p q id hp hi
  have n1 : p ≠ L := by intro e; subst e; rw [h1] at hL; simp at hL
  have n2 : q ≠ L := by intro e; subst e; rw [h2] at hL; simp at hL
  exact ⟨b, k.typed _ _ _ _ h1 (by decide) n1, k.typed _ _ _ _ h2 (by decide) n2⟩

/-- The log: its variable L holds a slice that owns what was logged. -/
def Log (w : World) (L base : Nat) (xs : List Int) : Prop :=
  ∃ lv, w.heap[L]? = some (.cells #[lv] 23 (0, 0)) ∧ w.ownsRow base 21 1 lv xs.length (xs.map (Value.int .i32))

theorem nil_ahead (q : Nat) (w : World) : (nilAhead 256 27 (.pointer (some ⟨q, 0, none⟩)) "Close").run Yba.prog w = .ok (some false) w := by kernel_rfl
theorem method_close (q : Nat) (w : World) : (method 256 27 (.pointer (some ⟨q, 0, none⟩)) "Close").run Yba.prog w = .ok (41, .pointer (some ⟨q, 0, none⟩)) w := by kernel_rfl

/-- Block R behind the three stores of Close. -/
theorem opened {w : World} {R : Nat} {cs : Array Value} (hR : w.heap[R]? = some (.cells cs 47 (0, 0))) (h35 : cs[35]? = some (.int .i32 0)) {v : Value} (h37 : cs[37]? = some v) :
    ∃ cs', (((w.setCell ⟨R, 35, none⟩ (.int .i32 1)).setCell ⟨R, 37, none⟩ (.slice none 0 0)).setCell ⟨R, 35, none⟩ (.int .i32 0)).heap[R]? = some (.cells cs' 47 (0, 0)) ∧
      cs'.size = cs.size ∧ cs'[37]? = some (.slice none 0 0) ∧ ∀ i, i ≠ 37 → cs'[i]? = cs[i]? := by
  have s35 : 35 < cs.size := (Array.getElem?_eq_some_iff.1 h35).1
  have s37 : 37 < cs.size := (Array.getElem?_eq_some_iff.1 h37).1
  refine ⟨((cs.setIfInBounds 35 (.int .i32 1)).setIfInBounds 37 (.slice none 0 0)).setIfInBounds 35 (.int .i32 0), ?_, by simp, ?_, ?_⟩
  · simp [World.setCell, Array.getElem?_modify, hR]
  · simp [s37]
  · intro i hi
    by_cases h : i = 35
    · subst h; rw [h35]; simp [s35]
    · simp [Ne.symm h, Ne.symm hi]

theorem opened_else (w : World) {R : Nat} (a b c : Value) (i j k : Nat) {n : Nat} (h : n ≠ R) :
    (((w.setCell ⟨R, i, none⟩ a).setCell ⟨R, j, none⟩ b).setCell ⟨R, k, none⟩ c).heap[n]? = w.heap[n]? := by
  rw [Below.heap_setCell _ _ _ _ h, Below.heap_setCell _ _ _ _ h, Below.heap_setCell _ _ _ _ h]

/-- What Close leaves. -/
structure Closed (w w' : World) (R L base : Nat) (cs : Array Value) (xs ids : List Int) : Prop where
  os : w'.os = w.os
  tape : w'.tape = w.tape
  output : w'.output = w.output
  size : w.heap.size ≤ w'.heap.size
  low : ∀ k, k < base → k ≠ L → w'.heap[k]? = w.heap[k]?
  rem : ∃ cs', w'.heap[R]? = some (.cells cs' 47 (0, 0)) ∧ cs'.size = cs.size ∧ cs'[37]? = some (.slice none 0 0) ∧ ∀ i, i ≠ 37 → cs'[i]? = cs[i]?
  log : Log w' L base (xs ++ ids)

/-- The world behind the lock's release: what was owned is owned, the connections lie as they lay, the log stands; and what the loop's end gives. -/
theorem second {R L base g n cap : Nat} {cs : Array Value} {xs ids : List Int} {ps : List (Nat × Nat)} {w w2 : World}
    (hR : w.heap[R]? = some (.cells cs 47 (0, 0))) (h35 : cs[35]? = some (.int .i32 0)) {v : Value} (h37 : cs[37]? = some v)
    (hv : w.ownsRow base 26 1 (.slice (some ⟨g, 0, none⟩) n cap) n (ps.map fun p => ptr p.1)) (hC : Conns w L ids ps) (hl : Log w L base xs) (hRb : base ≤ R) (hLb : L < base)
    (hw2 : w2 = (((w.setCell ⟨R, 35, none⟩ (.int .i32 1)).setCell ⟨R, 37, none⟩ (.slice none 0 0)).setCell ⟨R, 35, none⟩ (.int .i32 0))) :
    w2.ownsRow base 26 1 (.slice (some ⟨g, 0, none⟩) n cap) n (ps.map fun p => ptr p.1) ∧ Conns w2 L ids ps ∧ Log w2 L base xs ∧
      ∀ w', KeptLog w2 w' L base → Log w' L base (xs ++ ids) → Closed w w' R L base cs xs ids := by
  have he : ∀ k, k ≠ R → w2.heap[k]? = w.heap[k]? := fun k h => by rw [hw2]; exact opened_else w _ _ _ _ _ _ h
  have hsz : w2.heap.size = w.heap.size := by rw [hw2]; simp [World.setCell]
  have ho : w2.os = w.os := by rw [hw2]; rfl
  have ht : w2.tape = w.tape := by rw [hw2]; rfl
  have hou : w2.output = w.output := by rw [hw2]; rfl
  obtain ⟨cs', hR2, hs2, h372, hi2⟩ := opened hR h35 h37
  rw [← hw2] at hR2
  have own : ∀ {e n : Nat} {v : Value} {ys : List Value}, w.ownsRow base e 1 v n ys → e ≠ 47 → w2.ownsRow base e 1 v n ys := by
    intro e n v ys h hne
    refine ⟨h.1, ?_⟩
    rcases h.2 with h2 | ⟨g, cap, cur, hv, hg, hh, r⟩
    · exact Or.inl h2
    · refine Or.inr ⟨g, cap, cur, hv, hg, ?_, r⟩
      rw [he g (by intro e'; subst e'; rw [hR] at hh; simp at hh; exact hne hh.2.symm)]
      exact hh
  refine ⟨own hv (by decide), ⟨hC.1, fun j p q id hp hi => ?_⟩, ?_, fun w' hk hlog => ?_⟩
  · obtain ⟨b, h1, h2⟩ := hC.2 j p q id hp hi
    exact ⟨b, by rw [he p (by intro e'; subst e'; rw [hR] at h1; simp at h1)]; exact h1, by rw [he q (by intro e'; subst e'; rw [hR] at h2; simp at h2)]; exact h2⟩
  · obtain ⟨lv, h1, h2⟩ := hl
    exact ⟨lv, by rw [he L (by omega)]; exact h1, own h2 (by decide)⟩
  · exact ⟨hk.os.trans ho, hk.tape.trans ht, hk.output.trans hou, by rw [← hsz]; exact hk.size, fun k hkb hkl => (hk.low k hkb hkl).trans (he k (by omega)),
      ⟨cs', hk.typed R cs' 47 (0, 0) hR2 (by decide) (by omega), hs2, h372, hi2⟩, hlog⟩

theorem second_none {R L base : Nat} {cs : Array Value} {xs : List Int} {w w2 : World}
    (hR : w.heap[R]? = some (.cells cs 47 (0, 0))) (h35 : cs[35]? = some (.int .i32 0)) {v : Value} (h37 : cs[37]? = some v) (hl : Log w L base xs) (hRb : base ≤ R) (hLb : L < base)
    (hw2 : w2 = (((w.setCell ⟨R, 35, none⟩ (.int .i32 1)).setCell ⟨R, 37, none⟩ (.slice none 0 0)).setCell ⟨R, 35, none⟩ (.int .i32 0))) : Closed w w2 R L base cs xs [] := by
  have he : ∀ k, k ≠ R → w2.heap[k]? = w.heap[k]? := fun k h => by rw [hw2]; exact opened_else w _ _ _ _ _ _ h
  have hsz : w2.heap.size = w.heap.size := by rw [hw2]; simp [World.setCell]
  obtain ⟨cs', hR2, hs2, h372, hi2⟩ := opened hR h35 h37
  rw [← hw2] at hR2
  refine ⟨by rw [hw2]; rfl, by rw [hw2]; rfl, by rw [hw2]; rfl, by omega, fun k hkb _ => he k (by omega), ⟨cs', hR2, hs2, h372, hi2⟩, ?_⟩
  obtain ⟨lv, h1, h2⟩ := hl
  refine ⟨lv, by rw [he L (by omega)]; exact h1, ?_⟩
  rw [List.append_nil]
  refine ⟨h2.1, ?_⟩
  rcases h2.2 with h3 | ⟨g, cap, cur, hv, hg, hh, r⟩
  · exact Or.inl h3
  · refine Or.inr ⟨g, cap, cur, hv, hg, ?_, r⟩
    rw [he g (by intro e'; subst e'; rw [hR] at hh; simp at hh)]
    exact hh

/-- In a round: the connection at place k. -/
theorem at_round {L base g n cap k : Nat} {xs ids : List Int} {ps : List (Nat × Nat)} {w2 wr : World}
    (hv : w2.ownsRow base 26 1 (.slice (some ⟨g, 0, none⟩) n cap) n (ps.map fun p => ptr p.1)) (hC : Conns w2 L ids ps) (hl : Log w2 L base xs) (hn : ids.length = n) (hk : KeptLog w2 wr L base) (hlt : k < n) :
    ∃ p q id b, ids[k]? = some id ∧ wr.cell? ⟨g, k, none⟩ = some (.pointer (some ⟨p, 0, none⟩)) ∧
      wr.heap[p]? = some (.cells #[.iface 27 (.pointer (some ⟨q, 0, none⟩)), .pointer none] 35 (0, 0)) ∧
      wr.heap[q]? = some (.cells #[.pointer none, .int .i32 id, .bool b, .pointer (some ⟨L, 0, none⟩)] 30 (0, 0)) := by
  have hlp : k < ps.length := by rw [hC.1, hn]; exact hlt
  obtain ⟨lv, hL, _⟩ := hl
  have hC' := Conns.kept hC hk ⟨lv, hL⟩
  obtain ⟨⟨p, q⟩, hpq⟩ : ∃ x, ps[k]? = some x := ⟨ps[k], by simp [hlp]⟩
  obtain ⟨id, hid⟩ : ∃ x, ids[k]? = some x := ⟨ids[k]'(by omega), by simp [show k < ids.length by omega]⟩
  obtain ⟨b, h1, h2⟩ := hC'.2 k p q id hpq hid
  refine ⟨p, q, id, b, hid, ?_, h1, h2⟩
  rcases hv.2 with ⟨h, _⟩ | ⟨g', cap', cur, hv', hb, hg, _, _, _, htake⟩
  · cases h
  · simp only [Value.slice.injEq, Option.some.injEq, Addr.mk.injEq] at hv'
    obtain ⟨⟨rfl, _⟩, _, rfl⟩ := hv'
    have n1 : g ≠ L := by intro e; subst e; rw [hg] at hL; simp at hL
    have hg' := hk.typed _ _ _ _ hg (by decide) n1
    rw [cell_of_block hg']
    have e : (cur.toList.take (n * 1))[k]? = some (ptr p) := by rw [htake]; simp [hpq]
    rw [List.getElem?_take, if_pos (by omega)] at e
    simpa [ptr] using e

/-- One round more. -/
theorem next_round {L base k : Nat} {xs ids : List Int} {w2 wr w' : World} {lv : Value} {id : Int} (hown : wr.ownsRow base 21 1 lv (xs ++ ids.take k).length ((xs ++ ids.take k).map (Value.int .i32)))
    (hk : KeptLog w2 wr L base) (hid : ids[k]? = some id) (hb : base ≤ wr.heap.size) (h : Logged wr L base lv (xs ++ ids.take k).length ((xs ++ ids.take k).map (Value.int .i32)) id w') :
    Log w' L base (xs ++ ids.take (k + 1)) ∧ KeptLog w2 w' L base := by
  obtain ⟨lv', h1, h2, h3⟩ := h
  refine ⟨⟨lv', h1, ?_⟩, hk.trans (KeptLog.of2 hown hb h3)⟩
  have e : xs ++ ids.take (k + 1) = (xs ++ ids.take k) ++ [id] := by
    rw [List.take_add_one, hid]; simp
  rw [e, List.length_append, List.map_append]
  exact h2

set_option maxRecDepth 100000 in
set_option maxHeartbeats 1600000 in
theorem close_some (R L base g n cap : Nat) (cs : Array Value) (xs ids : List Int) (ps : List (Nat × Nat)) (w : World)
    (hR : w.heap[R]? = some (.cells cs 47 (0, 0))) (h35 : cs[35]? = some (.int .i32 0)) (h37 : cs[37]? = some (.slice (some ⟨g, 0, none⟩) n cap))
    (hv : w.ownsRow base 26 1 (.slice (some ⟨g, 0, none⟩) n cap) n (ps.map fun p => ptr p.1)) (hn : ids.length = n) (hC : Conns w L ids ps) (hl : Log w L base xs)
    (hbase : base ≤ w.heap.size) (hRb : base ≤ R) (hLb : L < base) (hm : xs.length + n ≤ 90000) :
    Calls Yba.prog 4 #[.pointer (some ⟨R, 0, none⟩)] w fun e w' => e = .returned .nilIface ∧ Closed w w' R L base cs xs ids := by
  have c35 : w.cell? ⟨R, 35, none⟩ = some (.int .i32 0) := by rw [cell_of_block hR]; exact h35
  have c37 : w.cell? ⟨R, 37, none⟩ = some (.slice (some ⟨g, 0, none⟩) n cap) := by rw [cell_of_block hR]; exact h37
  have f35 : w.frozen? ⟨R, 35, none⟩ = false := free_of_block hR
  have f37 : w.frozen? ⟨R, 37, none⟩ = false := free_of_block hR
  go_enter Yba.func4, Yba.ntmps4
  go_wp2_with fail
  refine (lock ⟨R, 35, none⟩ _ c35 f35).mono ?_
  rintro e w' ⟨rfl, rfl⟩
  go_wp2_with fail
  refine (unlock ⟨R, 35, none⟩ _ ?_ ?_).mono ?_
  · exact (World.cell?_setCell_other _ ⟨R, 37, none⟩ ⟨R, 35, none⟩ _ (by simp)).trans (World.cell?_setCell_same w ⟨R, 35, none⟩ _ c35)
  · simp [f35]
  rintro e w' ⟨rfl, rfl⟩
  go_wp2_with fail
  obtain ⟨w2, hw2⟩ : ∃ w2, w2 = (((w.setCell ⟨R, 35, none⟩ (.int .i32 1)).setCell ⟨R, 37, none⟩ (.slice none 0 0)).setCell ⟨R, 35, none⟩ (.int .i32 0)) := ⟨_, rfl⟩
  rw [← hw2]
  obtain ⟨hv2, hC2, hl2, hrest⟩ := second hR h35 h37 hv hC hl hRb hLb hw2
  have hsz2 : base ≤ w2.heap.size := by rw [hw2]; simpa [World.setCell] using hbase
  clear hw2 c35 c37 f35 f37 hv hC hl
  go_loopw [23] (fun i wr => ∃ k : Nat, k ≤ n ∧ i = .int .i64 k ∧ Log wr L base (xs ++ ids.take k) ∧ KeptLog w2 wr L base) (fun i _ => n - (intOf i).toNat)
  case atStart => exact ⟨0, Nat.zero_le _, rfl, by simpa using hl2, KeptLog.refl _ _ _⟩
  case round =>
    obtain ⟨k, hk, rfl, hlk, hkk⟩ := hrel
    by_cases hlt : k < n
    · obtain ⟨p, q, id, b, hid, hcg, hp, hq⟩ := at_round hv2 hC2 hl2 hn hkk hlt
      have hcp : wr.cell? ⟨p, 0, none⟩ = some (.iface 27 (.pointer (some ⟨q, 0, none⟩))) := by rw [cell_of_block hp]; rfl
      obtain ⟨lv, hL, hown⟩ := hlk
      have HQ : Hid (wr.heap[q]? = some (.cells #[.pointer none, .int .i32 id, .bool b, .pointer (some ⟨L, 0, none⟩)] 30 (0, 0))) := hq
      have HL : Hid (wr.heap[L]? = some (.cells #[lv] 23 (0, 0))) := hL
      have HO : Hid (wr.ownsRow base 21 1 lv (xs ++ ids.take k).length ((xs ++ ids.take k).map (Value.int .i32))) := hown
      have HK : Hid (KeptLog w2 wr L base) := hkk
      have HI : Hid (ids[k]? = some id) := hid
      clear hq hL hown hkk hid hp
      have na := nil_ahead q
      have mc := method_close q
      go_wp2_with fail
      refine (conn_close q L base id b (.pointer none) lv _ _ wr HQ.out HL.out HO.out ?_ ?_).mono ?_
      · have := HK.out.size; omega
      · simp only [List.length_append, List.length_take]; omega
      rintro e w' ⟨⟨v, rfl⟩, hlg⟩
      have R1 := next_round HO.out HK.out HI.out (by have := HK.out.size; omega) hlg
      have HR1 : Hid (Log w' L base (xs ++ ids.take (k + 1)) ∧ KeptLog w2 w' L base) := R1
      clear R1 hlg HQ HL HO HK HI
      go_wp2
      go_roundw
      case rel => exact ⟨k + 1, by omega, by go_num, HR1.out.1, HR1.out.2⟩
      case measure => simp [intOf]; omega
    · have hkn : k = n := by omega
      subst hkn
      go_wp2
      go_ret
      exact ⟨rfl, hrest wr hkk (by rw [← hn, List.take_length] at hlk; exact hlk)⟩

set_option maxRecDepth 100000 in
set_option maxHeartbeats 1600000 in
/-- With no connection kept. -/
theorem close_none (R L base : Nat) (cs : Array Value) (xs : List Int) (w : World)
    (hR : w.heap[R]? = some (.cells cs 47 (0, 0))) (h35 : cs[35]? = some (.int .i32 0)) (h37 : cs[37]? = some (.slice none 0 0)) (hl : Log w L base xs)
    (hbase : base ≤ w.heap.size) (hRb : base ≤ R) (hLb : L < base) :
    Calls Yba.prog 4 #[.pointer (some ⟨R, 0, none⟩)] w fun e w' => e = .returned .nilIface ∧ Closed w w' R L base cs xs [] := by
  have c35 : w.cell? ⟨R, 35, none⟩ = some (.int .i32 0) := by rw [cell_of_block hR]; exact h35
  have c37 : w.cell? ⟨R, 37, none⟩ = some (.slice none 0 0) := by rw [cell_of_block hR]; exact h37
  have f35 : w.frozen? ⟨R, 35, none⟩ = false := free_of_block hR
  have f37 : w.frozen? ⟨R, 37, none⟩ = false := free_of_block hR
  go_enter Yba.func4, Yba.ntmps4
  go_wp2_with fail
  refine (lock ⟨R, 35, none⟩ _ c35 f35).mono ?_
  rintro e w' ⟨rfl, rfl⟩
  go_wp2_with fail
  refine (unlock ⟨R, 35, none⟩ _ ?_ ?_).mono ?_
  · exact (World.cell?_setCell_other _ ⟨R, 37, none⟩ ⟨R, 35, none⟩ _ (by simp)).trans (World.cell?_setCell_same w ⟨R, 35, none⟩ _ c35)
  · simp [f35]
  rintro e w' ⟨rfl, rfl⟩
  go_wp2_with fail
  refine wp_loop_rounds 1 ?_
  rw [rounds_succ]
  go_wp2
  go_ret
  exact ⟨rfl, second_none hR h35 h37 hl hRb hLb rfl⟩
end Go.Proofs.Ybulkegtk
