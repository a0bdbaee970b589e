/-
  DERIVED. ownerReferences over an array: the walk.
-/
import Derived.Test.YbulkegvaFmtOwnD
import Derived.RegionTactic
import Derived.Deep.RegionHeld3
set_option linter.unusedVariables false
namespace Go.Proofs.YbulkegvaFmt
open Go.RowKit Go.Extern.Stop Go.Stop Go.Extern Go.Maps
attribute [local go_sem] Ybaf.call13 Ybaf.guard Ybaf.fmt0 Ybaf.fmt0r Ybaf.fmt1 Ybaf.fmt1r Ybaf.fmt2 Ybaf.fmt2r Ybaf.fmt3 Ybaf.fmt3r Ybaf.fmt4 Ybaf.fmt4r
attribute [local go_sem] Ybaf.act3_100 Ybaf.op3_100 Ybaf.str3 Ybaf.act9_115 Ybaf.op9_115 Ybaf.str9 Ybaf.asNil_9 Ybaf.as9_9 Ybaf.as4_9 Ybaf.as23_9 Ybaf.as24_9 Ybaf.as72_9
attribute [local go_sem] Ybaf.asNil_4 Ybaf.as9_4 Ybaf.as4_4 Ybaf.as23_4 Ybaf.as24_4 Ybaf.as72_4 Ybaf.asNil_23 Ybaf.as9_23 Ybaf.as4_23 Ybaf.as23_23 Ybaf.as24_23 Ybaf.as72_23
attribute [local go_sem] Ybaf.asNil_24 Ybaf.as9_24 Ybaf.as4_24 Ybaf.as23_24 Ybaf.as24_24 Ybaf.as72_24 Ybaf.as37_37 Ybaf.isIface20 Ybaf.isIface33 Ybaf.mapNil

set_option maxRecDepth 100000 in
set_option maxHeartbeats 12800000 in
theorem own_arr (F : Interp) (Ms : List Mem) (bs : Nat → Nat) (ba n : Nat) (vs : Array Value) (mv : Value) (w : World) (hH : OH F Ms bs ba vs w) (hn : n = Ms.length)
    (hl : (Instr.lookup 23 mv (.string ⟨#[111, 119, 110, 101, 114, 82, 101, 102, 101, 114, 101, 110, 99, 101, 115]⟩) false).run Ybaf.prog w = .ok (.iface 24 (.slice (some ⟨ba, 0, none⟩) n n)) w) :
    Calls Ybaf.prog 5 #[mv] w fun e w' => OwnPost Ms bs w e w' := by
  have hn65 : n ≤ 65536 := hn ▸ hH.len
  have hmk : ∀ w : World, (Instr.makeSlice 31 (.int .i64 (n : Int)) (.int .i64 (n : Int))).run Ybaf.prog w = .ok (.slice (some ⟨w.heap.size, 0, none⟩) n n) (w.alloc (.cells (madeCells zref (n * 5)) 46)) := fun w => mk31 n hn65 w
  have HH := hid hH
  have HN := hid hn
  clear hH hn
  go_enter Ybaf.func5, Ybaf.ntmps5
  go_wp2_with fail
  refine (arr_ok _ _ _ _ _ hl).mono ?_
  rintro e w' ⟨rfl, rfl⟩
  go_wp2
  clear hmk hl
  go_loopw [5, 30] (fun ev iv wr => ∃ i : Nat, i ≤ n ∧ iv = .int .i64 i ∧ ev = .nilIface ∧ OI Ms bs w'.heap.size i w' wr) (fun _ i _ => n - (intOf i).toNat)
  case atStart => exact ⟨0, by omega, rfl, rfl, start_OI HH.out HN.out⟩
  case round =>
    obtain ⟨wo, hwo⟩ : ∃ x : World, x = wr := ⟨wr, rfl⟩
    subst hwo
    obtain ⟨i, hi, rfl, rfl, hI⟩ := hrel
    by_cases hlt : i < n
    · have hlt' : i < Ms.length := HN.out ▸ hlt
      obtain ⟨m, hm⟩ : ∃ m, Ms[i]? = some m := ⟨Ms[i], List.getElem?_eq_getElem hlt'⟩
      have hnot : ¬ InMap Ms bs ba := by
        rintro ⟨j, mj, hj, hjm, e⟩
        obtain ⟨es, clk, hb⟩ := (HH.out.maps j mj hj hjm).isMap
        rw [← e, HH.out.ba] at hb
        cases hb
      have hba : wo.heap[ba]? = some (.cells vs 20 (0, 0)) := (hI.kpt.block ba (Array.getElem?_eq_some_iff.1 HH.out.ba).1 hnot).trans HH.out.ba
      have cv : wo.cell? ⟨ba, i, none⟩ = some (m.val (bs i)) := cell_at hba (HH.out.vs i m hm)
      have hFw : F.answers wo.tape := by rw [hI.kpt.tape]; exact HH.out.ans
      have hF' := answers_open hFw
      have HFW := hid hFw
      have HM := hid hm
      have HI := hid hI
      have HL := hid hlt'
      have HOK := hid (HH.out.ok i m hm)
      clear hI hm hba hnot hlt' hFw
      by_cases k3 : m.k.tmod 4 = 3
      · have ev : m.val (bs i) = .iface 9 (.string ⟨#[109, 101, 109, 98, 101, 114]⟩) := by simp [Mem.val, k3]
        rw [ev] at cv
        go_wp2_with fail
        apply rows_value Ybaf.nextTurns
        case hr =>
          go_simp
          exact ⟨rfl, rfl⟩
        case h =>
          have ht := HH.out.text i (by omega)
          generalize FmtStop.textOf (F "fmt.Sprintf" [[109, 101, 116, 97, 100, 97, 116, 97, 46, 111, 119, 110, 101, 114, 82, 101, 102, 101, 114, 101, 110, 99, 101, 115, 91, 37, 100, 93], Ybaf.shape3, Go.Extern.Stop.digits 8 ((i : Int) % 18446744073709551616).toNat] 0) = what at ht ⊢
          have bel1 : Below w'.heap.size wo ((wo.alloc (Obj.cells #[Value.iface 3 (Value.int IntKind.i64 i)] 20)).drew) := ((Below.refl _ wo).alloc HI.out.kpt.size _).drew
          have HB1 := hid bel1
          have HT1 : Hid (((wo.alloc (Obj.cells #[Value.iface 3 (Value.int IntKind.i64 i)] 20)).drew).tape = wo.tape) := bel1.tape
          clear bel1
          generalize (wo.alloc (Obj.cells #[Value.iface 3 (Value.int IntKind.i64 i)] 20)).drew = W2 at HB1 HT1 ⊢
          clear hF'
          go_wp2_with (first | (go_at_call 14; refine (fail_c F _ what W2.heap.size _ (by show F.answers W2.tape; rw [HT1.out]; exact HFW.out) Ybaf.fmt4 (by simp) (by go_simp)).mono ?_; rintro e w4 ⟨p, rfl, hp, he, hb4⟩))
          go_ret2
          refine own_evil HI.out HH.out HM.out (by simp [Mem.fails, k3]) ?_ he
          exact (HB1.out.alloc (Nat.le_trans HI.out.kpt.size HB1.out.size) _).trans (hb4.mono (Nat.le_trans (Nat.le_trans HI.out.kpt.size HB1.out.size) (by simp)))
      by_cases k2 : m.k.tmod 4 = 2
      · have ev : m.val (bs i) = .nilIface := by simp [Mem.val, k2]
        have hnm : ¬ m.isMap := fun h => h.1 k2
        rw [ev] at cv
        go_wp2_with fail
        apply rows_value Ybaf.nextTurns
        case hr =>
          go_simp
          exact ⟨rfl, rfl⟩
        case h =>
          have ht := HH.out.text i (by omega)
          generalize FmtStop.textOf (F "fmt.Sprintf" [[109, 101, 116, 97, 100, 97, 116, 97, 46, 111, 119, 110, 101, 114, 82, 101, 102, 101, 114, 101, 110, 99, 101, 115, 91, 37, 100, 93], Ybaf.shape3, Go.Extern.Stop.digits 8 ((i : Int) % 18446744073709551616).toNat] 0) = what at ht ⊢
          have HIN := hid (start_IN HI.out (Obj.cells #[Value.iface 3 (Value.int IntKind.i64 i)] 20) m.ref)
          clear hF'
          generalize (wo.alloc (Obj.cells #[Value.iface 3 (Value.int IntKind.i64 i)] 20)).drew = W2 at HIN ⊢
          go_wp2
          go_region
          go_wp2
          go_loopw [5, 76] (fun ev jv wx => ∃ j : Nat, j ≤ 4 ∧ jv = .int .i64 j ∧ ev = .nilIface ∧ IN Ms w'.heap.size w'.heap.size i W2.heap.size j m.ref wo wx) (fun _ j _ => 4 - (intOf j).toNat)
          case atStart => exact ⟨0, by omega, rfl, rfl, HIN.out⟩
          case round =>
            obtain ⟨j, hj, rfl, rfl, hX⟩ := hrel
            clear HIN
            have hj' : j = 0 ∨ j = 1 ∨ j = 2 ∨ j = 3 ∨ j = 4 := by omega
            rcases hj' with rfl | rfl | rfl | rfl | rfl
            · obtain ⟨u, x1, x2, x3, x4⟩ := hX.cell HL.out 0 (by omega)
              rw [Nat.add_zero] at x1 x2 x3 x4
              have y0 : wr.cell? ⟨W2.heap.size, 0, none⟩ = some (.string ⟨#[97, 112, 105, 86, 101, 114, 115, 105, 111, 110]⟩) := cell_at hX.sb rfl
              have y1 : wr.cell? ⟨W2.heap.size, 1, none⟩ = some (.pointer (some ⟨w'.heap.size, i * 5, none⟩)) := cell_at hX.sb rfl
              have hadd := cat_dot what ht
              have hadd2 := cat_any (what ++ ⟨#[46]⟩) ⟨#[97, 112, 105, 86, 101, 114, 115, 105, 111, 110]⟩ (size_dot what ht) (by decide)
              have hbl : w'.heap.size < wr.heap.size := hX.rf.lt
              have hnb : w'.heap.size ≠ wr.heap.size := Nat.ne_of_lt hbl
              have HS : Hid (∀ o what', Calls Ybaf.prog 15 #[.map none, .string ⟨#[97, 112, 105, 86, 101, 114, 115, 105, 111, 110]⟩, .string what'] ((wr.alloc o).drew) fun e w'' => e = .returned (.tuple #[.string ⟨#[]⟩, .nilIface]) ∧ w'' = (wr.alloc o).drew) := fun o wh => str_nil0 _ _ (small _ (by decide)) _
              have HX := hid hX
              clear hX hbl
              go_wp2_with fail
              go_region_held3 (fun w'' => w''.cell? ⟨wr.heap.size, 0, none⟩ = some (.string ⟨#[97, 112, 105, 86, 101, 114, 115, 105, 111, 110]⟩) ∧ w''.cell? ⟨wr.heap.size, 1, none⟩ = some (.pointer (some ⟨w'.heap.size, i * 5, none⟩))) (go_keep) (first | (go_at_call 15; refine (HS.out _ _).mono ?_; rintro e w4 ⟨rfl, rfl⟩))
              go_wp2
              go_roundw
              case rel => exact ⟨1, by omega, by go_num, rfl, ((HX.out.alloc _).set HL.out (by omega) _ (by simp [Mem.ref, k2])).drew⟩
              case measure => simp [intOf]
            · obtain ⟨u, x1, x2, x3, x4⟩ := hX.cell HL.out 1 (by omega)
              have y0 : wr.cell? ⟨W2.heap.size, 2, none⟩ = some (.string ⟨#[107, 105, 110, 100]⟩) := cell_at hX.sb rfl
              have y1 : wr.cell? ⟨W2.heap.size, 3, none⟩ = some (.pointer (some ⟨w'.heap.size, i * 5 + 1, none⟩)) := cell_at hX.sb rfl
              have hadd := cat_dot what ht
              have hadd2 := cat_any (what ++ ⟨#[46]⟩) ⟨#[107, 105, 110, 100]⟩ (size_dot what ht) (by decide)
              have hbl : w'.heap.size < wr.heap.size := hX.rf.lt
              have hnb : w'.heap.size ≠ wr.heap.size := Nat.ne_of_lt hbl
              have HS : Hid (∀ o what', Calls Ybaf.prog 15 #[.map none, .string ⟨#[107, 105, 110, 100]⟩, .string what'] ((wr.alloc o).drew) fun e w'' => e = .returned (.tuple #[.string ⟨#[]⟩, .nilIface]) ∧ w'' = (wr.alloc o).drew) := fun o wh => str_nil0 _ _ (small _ (by decide)) _
              have HX := hid hX
              clear hX hbl
              go_wp2_with fail
              go_region_held3 (fun w'' => w''.cell? ⟨wr.heap.size, 0, none⟩ = some (.string ⟨#[107, 105, 110, 100]⟩) ∧ w''.cell? ⟨wr.heap.size, 1, none⟩ = some (.pointer (some ⟨w'.heap.size, i * 5 + 1, none⟩))) (go_keep) (first | (go_at_call 15; refine (HS.out _ _).mono ?_; rintro e w4 ⟨rfl, rfl⟩))
              go_wp2
              go_roundw
              case rel => exact ⟨2, by omega, by go_num, rfl, ((HX.out.alloc _).set HL.out (by omega) _ (by simp [Mem.ref, k2])).drew⟩
              case measure => simp [intOf]
            · obtain ⟨u, x1, x2, x3, x4⟩ := hX.cell HL.out 2 (by omega)
              have y0 : wr.cell? ⟨W2.heap.size, 4, none⟩ = some (.string ⟨#[110, 97, 109, 101]⟩) := cell_at hX.sb rfl
              have y1 : wr.cell? ⟨W2.heap.size, 5, none⟩ = some (.pointer (some ⟨w'.heap.size, i * 5 + 2, none⟩)) := cell_at hX.sb rfl
              have hadd := cat_dot what ht
              have hadd2 := cat_any (what ++ ⟨#[46]⟩) ⟨#[110, 97, 109, 101]⟩ (size_dot what ht) (by decide)
              have hbl : w'.heap.size < wr.heap.size := hX.rf.lt
              have hnb : w'.heap.size ≠ wr.heap.size := Nat.ne_of_lt hbl
              have HS : Hid (∀ o what', Calls Ybaf.prog 15 #[.map none, .string ⟨#[110, 97, 109, 101]⟩, .string what'] ((wr.alloc o).drew) fun e w'' => e = .returned (.tuple #[.string ⟨#[]⟩, .nilIface]) ∧ w'' = (wr.alloc o).drew) := fun o wh => str_nil0 _ _ (small _ (by decide)) _
              have HX := hid hX
              clear hX hbl
              go_wp2_with fail
              go_region_held3 (fun w'' => w''.cell? ⟨wr.heap.size, 0, none⟩ = some (.string ⟨#[110, 97, 109, 101]⟩) ∧ w''.cell? ⟨wr.heap.size, 1, none⟩ = some (.pointer (some ⟨w'.heap.size, i * 5 + 2, none⟩))) (go_keep) (first | (go_at_call 15; refine (HS.out _ _).mono ?_; rintro e w4 ⟨rfl, rfl⟩))
              go_wp2
              go_roundw
              case rel => exact ⟨3, by omega, by go_num, rfl, ((HX.out.alloc _).set HL.out (by omega) _ (by simp [Mem.ref, k2])).drew⟩
              case measure => simp [intOf]
            · obtain ⟨u, x1, x2, x3, x4⟩ := hX.cell HL.out 3 (by omega)
              have y0 : wr.cell? ⟨W2.heap.size, 6, none⟩ = some (.string ⟨#[117, 105, 100]⟩) := cell_at hX.sb rfl
              have y1 : wr.cell? ⟨W2.heap.size, 7, none⟩ = some (.pointer (some ⟨w'.heap.size, i * 5 + 3, none⟩)) := cell_at hX.sb rfl
              have hadd := cat_dot what ht
              have hadd2 := cat_any (what ++ ⟨#[46]⟩) ⟨#[117, 105, 100]⟩ (size_dot what ht) (by decide)
              have hbl : w'.heap.size < wr.heap.size := hX.rf.lt
              have hnb : w'.heap.size ≠ wr.heap.size := Nat.ne_of_lt hbl
              have HS : Hid (∀ o what', Calls Ybaf.prog 15 #[.map none, .string ⟨#[117, 105, 100]⟩, .string what'] ((wr.alloc o).drew) fun e w'' => e = .returned (.tuple #[.string ⟨#[]⟩, .nilIface]) ∧ w'' = (wr.alloc o).drew) := fun o wh => str_nil0 _ _ (small _ (by decide)) _
              have HX := hid hX
              clear hX hbl
              go_wp2_with fail
              go_region_held3 (fun w'' => w''.cell? ⟨wr.heap.size, 0, none⟩ = some (.string ⟨#[117, 105, 100]⟩) ∧ w''.cell? ⟨wr.heap.size, 1, none⟩ = some (.pointer (some ⟨w'.heap.size, i * 5 + 3, none⟩))) (go_keep) (first | (go_at_call 15; refine (HS.out _ _).mono ?_; rintro e w4 ⟨rfl, rfl⟩))
              go_wp2
              go_roundw
              case rel => exact ⟨4, by omega, by go_num, rfl, ((HX.out.alloc _).set HL.out (by omega) _ (by simp [Mem.ref, k2])).drew⟩
              case measure => simp [intOf]
            · -- behind the four fields
              obtain ⟨u, x1, x2, x3, x4⟩ := hX.cell HL.out 4 (by omega)
              have hadd := cat_any what ⟨#[46, 99, 111, 110, 116, 114, 111, 108, 108, 101, 114]⟩ (by omega) (by decide)
              have hadd2 := cat_any what ⟨#[46, 98, 108, 111, 99, 107, 79, 119, 110, 101, 114, 68, 101, 108, 101, 116, 105, 111, 110]⟩ (by omega) (by decide)
              have hbl : w'.heap.size < wr.heap.size := hX.rf.lt
              have HX := hid hX
              clear hX
              go_wp2_with fail
              refine (boo_nil0 _ _ (small _ (by decide)) _).mono ?_
              rintro e w4 ⟨rfl, hw4⟩
              subst w4
              have HX5 := hid (HX.out.set HL.out (by omega) (.bool false) (by simp [Mem.ref, k2]))
              go_wp2_with fail
              refine (boo_nil0 _ _ (small _ (by decide)) _).mono ?_
              rintro e w5 ⟨rfl, hw5⟩
              subst w5
              generalize (wr.setCell ⟨w'.heap.size, i * 5 + 4, none⟩ (.bool false)) = W5 at HX5 ⊢
              go_wp2_with fail
              refine (omit_nil _ _ W5.heap.size _ (small _ (by decide)) (small _ (by decide)) (cell_one_of W5 _ _ 0) (cell_one_of W5 _ _ 1)).mono ?_
              rintro e w6 ⟨rfl, hw6⟩
              subst w6
              have HF := hid (fun o => next_nil HI.out HH.out HM.out (by simp [Mem.fails, k2]) hnm (HX5.out.alloc o).bel (HX5.out.alloc o).rf)
              go_wp2
              go_roundw
              case rel => exact ⟨i + 1, by omega, by go_num, rfl, HF.out _⟩
              case measure => simp [intOf]; omega
      · have ev : m.val (bs i) = .iface 23 (.map (some (bs i))) := by simp [Mem.val, k2, k3]
        have him : m.isMap := ⟨k2, k3⟩
        have HLK : Hid (∀ wz, Below w'.heap.size wo wz → MapIs wz (bs i) (m.f6 false false) (m.c6 false false)) := fun wz hb => by
          have h1 := HI.out.maps i m HM.out him
          have e1 : decide (i < i) = false := by simp
          rw [e1] at h1
          exact h1.same (hb.block _ (HH.out.lt i m HM.out him))
        rw [ev] at cv
        go_wp2_with fail
        apply rows_value Ybaf.nextTurns
        case hr =>
          go_simp
          exact ⟨rfl, rfl⟩
        case h =>
          have ht := HH.out.text i (by omega)
          generalize FmtStop.textOf (F "fmt.Sprintf" [[109, 101, 116, 97, 100, 97, 116, 97, 46, 111, 119, 110, 101, 114, 82, 101, 102, 101, 114, 101, 110, 99, 101, 115, 91, 37, 100, 93], Ybaf.shape3, Go.Extern.Stop.digits 8 ((i : Int) % 18446744073709551616).toNat] 0) = what at ht ⊢
          have HIN := hid (start_IN HI.out (Obj.cells #[Value.iface 3 (Value.int IntKind.i64 i)] 20) m.ref)
          clear hF'
          generalize (wo.alloc (Obj.cells #[Value.iface 3 (Value.int IntKind.i64 i)] 20)).drew = W2 at HIN ⊢
          go_wp2
          go_region
          go_wp2
          go_loopw [5, 76] (fun ev jv wx => ∃ j : Nat, j ≤ 4 ∧ jv = .int .i64 j ∧ ev = .nilIface ∧ IN Ms w'.heap.size w'.heap.size i W2.heap.size j m.ref wo wx ∧ ∀ c : Nat, c < j → ¬ (m.tag c).tmod 4 = 3) (fun _ j _ => 4 - (intOf j).toNat)
          case atStart => exact ⟨0, by omega, rfl, rfl, HIN.out, fun c hc => by omega⟩
          case round =>
            obtain ⟨j, hj, rfl, rfl, hX, hgd⟩ := hrel
            clear HIN
            have hj' : j = 0 ∨ j = 1 ∨ j = 2 ∨ j = 3 ∨ j = 4 := by omega
            rcases hj' with rfl | rfl | rfl | rfl | rfl
            · obtain ⟨u, x1, x2, x3, x4⟩ := hX.cell HL.out 0 (by omega)
              rw [Nat.add_zero] at x1 x2 x3 x4
              have y0 : wr.cell? ⟨W2.heap.size, 0, none⟩ = some (.string ⟨#[97, 112, 105, 86, 101, 114, 115, 105, 111, 110]⟩) := cell_at hX.sb rfl
              have y1 : wr.cell? ⟨W2.heap.size, 1, none⟩ = some (.pointer (some ⟨w'.heap.size, i * 5, none⟩)) := cell_at hX.sb rfl
              have hadd := cat_dot what ht
              have hadd2 := cat_any (what ++ ⟨#[46]⟩) ⟨#[97, 112, 105, 86, 101, 114, 115, 105, 111, 110]⟩ (size_dot what ht) (by decide)
              have hbl : w'.heap.size < wr.heap.size := hX.rf.lt
              have hnb : w'.heap.size ≠ wr.heap.size := Nat.ne_of_lt hbl
              by_cases g3 : m.t0.tmod 4 = 3
              · have HS : Hid (∀ o what', Calls Ybaf.prog 15 #[.map (some (bs i)), .string ⟨#[97, 112, 105, 86, 101, 114, 115, 105, 111, 110]⟩, .string what'] ((wr.alloc o).drew) fun e w'' => ∃ p, e = .returned (.tuple #[.string ⟨#[]⟩, .iface 37 (.pointer (some ⟨p, 0, none⟩))]) ∧ ((wr.alloc o).drew).heap.size ≤ p ∧ ErrAt w'' p ∧ Below ((wr.alloc o).drew).heap.size ((wr.alloc o).drew) w'') := fun o wh => str_evil F _ _ _ m.t0 m.s0 _ (by rw [((hX.alloc o).drew.bel).tape]; exact HFW.out) g3 (by have h9 := (HLK.out _ ((hX.alloc o).drew.bel)).look sK0; rw [m.at0] at h9; exact h9)
                have HX := hid hX
                clear hX hgd
                go_wp2_with fail
                go_region_held3 (fun w'' => w''.cell? ⟨wr.heap.size, 0, none⟩ = some (.string ⟨#[97, 112, 105, 86, 101, 114, 115, 105, 111, 110]⟩) ∧ w''.cell? ⟨wr.heap.size, 1, none⟩ = some (.pointer (some ⟨w'.heap.size, i * 5, none⟩))) (go_keep) (first | (go_at_call 15; refine (HS.out _ _).mono ?_; rintro e w4 ⟨p, rfl, hp, he, hb4⟩; have q0 := (hb4.cell (p := ⟨wr.heap.size, 0, none⟩) (by simp)).trans (cell_one_of _ _ _ 0); have q1 := (hb4.cell (p := ⟨wr.heap.size, 1, none⟩) (by simp)).trans (cell_one_of _ _ _ 1); have q2 : w4.cell? ⟨w'.heap.size, i * 5, none⟩ = some u := (hb4.cell (p := ⟨w'.heap.size, i * 5, none⟩) (by simp; omega)).trans (x2 _); have q3 : w4.frozen? ⟨w'.heap.size, i * 5, none⟩ = false := (hb4.frozen (p := ⟨w'.heap.size, i * 5, none⟩) (by simp; omega)).trans (x4 _); have HE := hid he; have HP : Hid (w'.heap.size < p) := Nat.lt_of_lt_of_le (by simp; omega) hp; have HB4 := hid (((HX.out.alloc _).drew).below hb4); clear hb4 he hp))
                go_wp2
                go_ret2
                exact own_evil HI.out HH.out HM.out (by simp [Mem.fails, k2, k3, g3]) (HB4.out.spoil _ _) (HE.out.set (by have := HP.out; omega))
              · have HS : Hid (∀ o what', Calls Ybaf.prog 15 #[.map (some (bs i)), .string ⟨#[97, 112, 105, 86, 101, 114, 115, 105, 111, 110]⟩, .string what'] ((wr.alloc o).drew) fun e w'' => e = .returned (.tuple #[.string (Mem.str m.t0 m.s0), .nilIface]) ∧ w'' = (wr.alloc o).drew) := fun o wh => str_good _ _ _ m.t0 m.s0 _ HOK.out.t0 g3 (by have h9 := (HLK.out _ ((hX.alloc o).drew.bel)).look sK0; rw [m.at0] at h9; exact h9)
                have HX := hid hX
                clear hX hbl
                go_wp2_with fail
                go_region_held3 (fun w'' => w''.cell? ⟨wr.heap.size, 0, none⟩ = some (.string ⟨#[97, 112, 105, 86, 101, 114, 115, 105, 111, 110]⟩) ∧ w''.cell? ⟨wr.heap.size, 1, none⟩ = some (.pointer (some ⟨w'.heap.size, i * 5, none⟩))) (go_keep) (first | (go_at_call 15; refine (HS.out _ _).mono ?_; rintro e w4 ⟨rfl, rfl⟩))
                go_wp2
                go_roundw
                case rel => exact ⟨1, by omega, by go_num, rfl, ((HX.out.alloc _).set HL.out (by omega) _ (by simp [Mem.ref, k2])).drew, good_more hgd g3⟩
                case measure => simp [intOf]
            · obtain ⟨u, x1, x2, x3, x4⟩ := hX.cell HL.out 1 (by omega)
              have y0 : wr.cell? ⟨W2.heap.size, 2, none⟩ = some (.string ⟨#[107, 105, 110, 100]⟩) := cell_at hX.sb rfl
              have y1 : wr.cell? ⟨W2.heap.size, 3, none⟩ = some (.pointer (some ⟨w'.heap.size, i * 5 + 1, none⟩)) := cell_at hX.sb rfl
              have hadd := cat_dot what ht
              have hadd2 := cat_any (what ++ ⟨#[46]⟩) ⟨#[107, 105, 110, 100]⟩ (size_dot what ht) (by decide)
              have hbl : w'.heap.size < wr.heap.size := hX.rf.lt
              have hnb : w'.heap.size ≠ wr.heap.size := Nat.ne_of_lt hbl
              by_cases g3 : m.t1.tmod 4 = 3
              · have HS : Hid (∀ o what', Calls Ybaf.prog 15 #[.map (some (bs i)), .string ⟨#[107, 105, 110, 100]⟩, .string what'] ((wr.alloc o).drew) fun e w'' => ∃ p, e = .returned (.tuple #[.string ⟨#[]⟩, .iface 37 (.pointer (some ⟨p, 0, none⟩))]) ∧ ((wr.alloc o).drew).heap.size ≤ p ∧ ErrAt w'' p ∧ Below ((wr.alloc o).drew).heap.size ((wr.alloc o).drew) w'') := fun o wh => str_evil F _ _ _ m.t1 m.s1 _ (by rw [((hX.alloc o).drew.bel).tape]; exact HFW.out) g3 (by have h9 := (HLK.out _ ((hX.alloc o).drew.bel)).look sK1; rw [m.at1] at h9; exact h9)
                have HX := hid hX
                clear hX hgd
                go_wp2_with fail
                go_region_held3 (fun w'' => w''.cell? ⟨wr.heap.size, 0, none⟩ = some (.string ⟨#[107, 105, 110, 100]⟩) ∧ w''.cell? ⟨wr.heap.size, 1, none⟩ = some (.pointer (some ⟨w'.heap.size, i * 5 + 1, none⟩))) (go_keep) (first | (go_at_call 15; refine (HS.out _ _).mono ?_; rintro e w4 ⟨p, rfl, hp, he, hb4⟩; have q0 := (hb4.cell (p := ⟨wr.heap.size, 0, none⟩) (by simp)).trans (cell_one_of _ _ _ 0); have q1 := (hb4.cell (p := ⟨wr.heap.size, 1, none⟩) (by simp)).trans (cell_one_of _ _ _ 1); have q2 : w4.cell? ⟨w'.heap.size, i * 5 + 1, none⟩ = some u := (hb4.cell (p := ⟨w'.heap.size, i * 5 + 1, none⟩) (by simp; omega)).trans (x2 _); have q3 : w4.frozen? ⟨w'.heap.size, i * 5 + 1, none⟩ = false := (hb4.frozen (p := ⟨w'.heap.size, i * 5 + 1, none⟩) (by simp; omega)).trans (x4 _); have HE := hid he; have HP : Hid (w'.heap.size < p) := Nat.lt_of_lt_of_le (by simp; omega) hp; have HB4 := hid (((HX.out.alloc _).drew).below hb4); clear hb4 he hp))
                go_wp2
                go_ret2
                exact own_evil HI.out HH.out HM.out (by simp [Mem.fails, k2, k3, g3]) (HB4.out.spoil _ _) (HE.out.set (by have := HP.out; omega))
              · have HS : Hid (∀ o what', Calls Ybaf.prog 15 #[.map (some (bs i)), .string ⟨#[107, 105, 110, 100]⟩, .string what'] ((wr.alloc o).drew) fun e w'' => e = .returned (.tuple #[.string (Mem.str m.t1 m.s1), .nilIface]) ∧ w'' = (wr.alloc o).drew) := fun o wh => str_good _ _ _ m.t1 m.s1 _ HOK.out.t1 g3 (by have h9 := (HLK.out _ ((hX.alloc o).drew.bel)).look sK1; rw [m.at1] at h9; exact h9)
                have HX := hid hX
                clear hX hbl
                go_wp2_with fail
                go_region_held3 (fun w'' => w''.cell? ⟨wr.heap.size, 0, none⟩ = some (.string ⟨#[107, 105, 110, 100]⟩) ∧ w''.cell? ⟨wr.heap.size, 1, none⟩ = some (.pointer (some ⟨w'.heap.size, i * 5 + 1, none⟩))) (go_keep) (first | (go_at_call 15; refine (HS.out _ _).mono ?_; rintro e w4 ⟨rfl, rfl⟩))
                go_wp2
                go_roundw
                case rel => exact ⟨2, by omega, by go_num, rfl, ((HX.out.alloc _).set HL.out (by omega) _ (by simp [Mem.ref, k2])).drew, good_more hgd g3⟩
                case measure => simp [intOf]
            · obtain ⟨u, x1, x2, x3, x4⟩ := hX.cell HL.out 2 (by omega)
              have y0 : wr.cell? ⟨W2.heap.size, 4, none⟩ = some (.string ⟨#[110, 97, 109, 101]⟩) := cell_at hX.sb rfl
              have y1 : wr.cell? ⟨W2.heap.size, 5, none⟩ = some (.pointer (some ⟨w'.heap.size, i * 5 + 2, none⟩)) := cell_at hX.sb rfl
              have hadd := cat_dot what ht
              have hadd2 := cat_any (what ++ ⟨#[46]⟩) ⟨#[110, 97, 109, 101]⟩ (size_dot what ht) (by decide)
              have hbl : w'.heap.size < wr.heap.size := hX.rf.lt
              have hnb : w'.heap.size ≠ wr.heap.size := Nat.ne_of_lt hbl
              by_cases g3 : m.t2.tmod 4 = 3
              · have HS : Hid (∀ o what', Calls Ybaf.prog 15 #[.map (some (bs i)), .string ⟨#[110, 97, 109, 101]⟩, .string what'] ((wr.alloc o).drew) fun e w'' => ∃ p, e = .returned (.tuple #[.string ⟨#[]⟩, .iface 37 (.pointer (some ⟨p, 0, none⟩))]) ∧ ((wr.alloc o).drew).heap.size ≤ p ∧ ErrAt w'' p ∧ Below ((wr.alloc o).drew).heap.size ((wr.alloc o).drew) w'') := fun o wh => str_evil F _ _ _ m.t2 m.s2 _ (by rw [((hX.alloc o).drew.bel).tape]; exact HFW.out) g3 (by have h9 := (HLK.out _ ((hX.alloc o).drew.bel)).look sK2; rw [m.at2] at h9; exact h9)
                have HX := hid hX
                clear hX hgd
                go_wp2_with fail
                go_region_held3 (fun w'' => w''.cell? ⟨wr.heap.size, 0, none⟩ = some (.string ⟨#[110, 97, 109, 101]⟩) ∧ w''.cell? ⟨wr.heap.size, 1, none⟩ = some (.pointer (some ⟨w'.heap.size, i * 5 + 2, none⟩))) (go_keep) (first | (go_at_call 15; refine (HS.out _ _).mono ?_; rintro e w4 ⟨p, rfl, hp, he, hb4⟩; have q0 := (hb4.cell (p := ⟨wr.heap.size, 0, none⟩) (by simp)).trans (cell_one_of _ _ _ 0); have q1 := (hb4.cell (p := ⟨wr.heap.size, 1, none⟩) (by simp)).trans (cell_one_of _ _ _ 1); have q2 : w4.cell? ⟨w'.heap.size, i * 5 + 2, none⟩ = some u := (hb4.cell (p := ⟨w'.heap.size, i * 5 + 2, none⟩) (by simp; omega)).trans (x2 _); have q3 : w4.frozen? ⟨w'.heap.size, i * 5 + 2, none⟩ = false := (hb4.frozen (p := ⟨w'.heap.size, i * 5 + 2, none⟩) (by simp; omega)).trans (x4 _); have HE := hid he; have HP : Hid (w'.heap.size < p) := Nat.lt_of_lt_of_le (by simp; omega) hp; have HB4 := hid (((HX.out.alloc _).drew).below hb4); clear hb4 he hp))
                go_wp2
                go_ret2
                exact own_evil HI.out HH.out HM.out (by simp [Mem.fails, k2, k3, g3]) (HB4.out.spoil _ _) (HE.out.set (by have := HP.out; omega))
              · have HS : Hid (∀ o what', Calls Ybaf.prog 15 #[.map (some (bs i)), .string ⟨#[110, 97, 109, 101]⟩, .string what'] ((wr.alloc o).drew) fun e w'' => e = .returned (.tuple #[.string (Mem.str m.t2 m.s2), .nilIface]) ∧ w'' = (wr.alloc o).drew) := fun o wh => str_good _ _ _ m.t2 m.s2 _ HOK.out.t2 g3 (by have h9 := (HLK.out _ ((hX.alloc o).drew.bel)).look sK2; rw [m.at2] at h9; exact h9)
                have HX := hid hX
                clear hX hbl
                go_wp2_with fail
                go_region_held3 (fun w'' => w''.cell? ⟨wr.heap.size, 0, none⟩ = some (.string ⟨#[110, 97, 109, 101]⟩) ∧ w''.cell? ⟨wr.heap.size, 1, none⟩ = some (.pointer (some ⟨w'.heap.size, i * 5 + 2, none⟩))) (go_keep) (first | (go_at_call 15; refine (HS.out _ _).mono ?_; rintro e w4 ⟨rfl, rfl⟩))
                go_wp2
                go_roundw
                case rel => exact ⟨3, by omega, by go_num, rfl, ((HX.out.alloc _).set HL.out (by omega) _ (by simp [Mem.ref, k2])).drew, good_more hgd g3⟩
                case measure => simp [intOf]
            · obtain ⟨u, x1, x2, x3, x4⟩ := hX.cell HL.out 3 (by omega)
              have y0 : wr.cell? ⟨W2.heap.size, 6, none⟩ = some (.string ⟨#[117, 105, 100]⟩) := cell_at hX.sb rfl
              have y1 : wr.cell? ⟨W2.heap.size, 7, none⟩ = some (.pointer (some ⟨w'.heap.size, i * 5 + 3, none⟩)) := cell_at hX.sb rfl
              have hadd := cat_dot what ht
              have hadd2 := cat_any (what ++ ⟨#[46]⟩) ⟨#[117, 105, 100]⟩ (size_dot what ht) (by decide)
              have hbl : w'.heap.size < wr.heap.size := hX.rf.lt
              have hnb : w'.heap.size ≠ wr.heap.size := Nat.ne_of_lt hbl
              by_cases g3 : m.t3.tmod 4 = 3
              · have HS : Hid (∀ o what', Calls Ybaf.prog 15 #[.map (some (bs i)), .string ⟨#[117, 105, 100]⟩, .string what'] ((wr.alloc o).drew) fun e w'' => ∃ p, e = .returned (.tuple #[.string ⟨#[]⟩, .iface 37 (.pointer (some ⟨p, 0, none⟩))]) ∧ ((wr.alloc o).drew).heap.size ≤ p ∧ ErrAt w'' p ∧ Below ((wr.alloc o).drew).heap.size ((wr.alloc o).drew) w'') := fun o wh => str_evil F _ _ _ m.t3 m.s3 _ (by rw [((hX.alloc o).drew.bel).tape]; exact HFW.out) g3 (by have h9 := (HLK.out _ ((hX.alloc o).drew.bel)).look sK3; rw [m.at3] at h9; exact h9)
                have HX := hid hX
                clear hX hgd
                go_wp2_with fail
                go_region_held3 (fun w'' => w''.cell? ⟨wr.heap.size, 0, none⟩ = some (.string ⟨#[117, 105, 100]⟩) ∧ w''.cell? ⟨wr.heap.size, 1, none⟩ = some (.pointer (some ⟨w'.heap.size, i * 5 + 3, none⟩))) (go_keep) (first | (go_at_call 15; refine (HS.out _ _).mono ?_; rintro e w4 ⟨p, rfl, hp, he, hb4⟩; have q0 := (hb4.cell (p := ⟨wr.heap.size, 0, none⟩) (by simp)).trans (cell_one_of _ _ _ 0); have q1 := (hb4.cell (p := ⟨wr.heap.size, 1, none⟩) (by simp)).trans (cell_one_of _ _ _ 1); have q2 : w4.cell? ⟨w'.heap.size, i * 5 + 3, none⟩ = some u := (hb4.cell (p := ⟨w'.heap.size, i * 5 + 3, none⟩) (by simp; omega)).trans (x2 _); have q3 : w4.frozen? ⟨w'.heap.size, i * 5 + 3, none⟩ = false := (hb4.frozen (p := ⟨w'.heap.size, i * 5 + 3, none⟩) (by simp; omega)).trans (x4 _); have HE := hid he; have HP : Hid (w'.heap.size < p) := Nat.lt_of_lt_of_le (by simp; omega) hp; have HB4 := hid (((HX.out.alloc _).drew).below hb4); clear hb4 he hp))
                go_wp2
                go_ret2
                exact own_evil HI.out HH.out HM.out (by simp [Mem.fails, k2, k3, g3]) (HB4.out.spoil _ _) (HE.out.set (by have := HP.out; omega))
              · have HS : Hid (∀ o what', Calls Ybaf.prog 15 #[.map (some (bs i)), .string ⟨#[117, 105, 100]⟩, .string what'] ((wr.alloc o).drew) fun e w'' => e = .returned (.tuple #[.string (Mem.str m.t3 m.s3), .nilIface]) ∧ w'' = (wr.alloc o).drew) := fun o wh => str_good _ _ _ m.t3 m.s3 _ HOK.out.t3 g3 (by have h9 := (HLK.out _ ((hX.alloc o).drew.bel)).look sK3; rw [m.at3] at h9; exact h9)
                have HX := hid hX
                clear hX hbl
                go_wp2_with fail
                go_region_held3 (fun w'' => w''.cell? ⟨wr.heap.size, 0, none⟩ = some (.string ⟨#[117, 105, 100]⟩) ∧ w''.cell? ⟨wr.heap.size, 1, none⟩ = some (.pointer (some ⟨w'.heap.size, i * 5 + 3, none⟩))) (go_keep) (first | (go_at_call 15; refine (HS.out _ _).mono ?_; rintro e w4 ⟨rfl, rfl⟩))
                go_wp2
                go_roundw
                case rel => exact ⟨4, by omega, by go_num, rfl, ((HX.out.alloc _).set HL.out (by omega) _ (by simp [Mem.ref, k2])).drew, good_more hgd g3⟩
                case measure => simp [intOf]
            · -- behind the four fields
              obtain ⟨u, x1, x2, x3, x4⟩ := hX.cell HL.out 4 (by omega)
              have hadd := cat_any what ⟨#[46, 99, 111, 110, 116, 114, 111, 108, 108, 101, 114]⟩ (by omega) (by decide)
              have hadd2 := cat_any what ⟨#[46, 98, 108, 111, 99, 107, 79, 119, 110, 101, 114, 68, 101, 108, 101, 116, 105, 111, 110]⟩ (by omega) (by decide)
              have hbl : w'.heap.size < wr.heap.size := hX.rf.lt
              have HX := hid hX
              clear hX
              by_cases gc : m.ct.tmod 4 = 3
              · go_wp2_with fail
                refine (boo_evil F _ _ _ m.ct m.cb _ (by rw [HX.out.bel.tape]; exact HFW.out) gc (by have h9 := (HLK.out _ HX.out.bel).look sKC; rw [m.atC] at h9; exact h9)).mono ?_
                rintro e w4 ⟨p, rfl, hp, he, hb4⟩
                have q2 : w4.cell? ⟨w'.heap.size, i * 5 + 4, none⟩ = some u := (hb4.cell (p := ⟨w'.heap.size, i * 5 + 4, none⟩) hbl).trans x1
                have q3 : w4.frozen? ⟨w'.heap.size, i * 5 + 4, none⟩ = false := (hb4.frozen (p := ⟨w'.heap.size, i * 5 + 4, none⟩) hbl).trans x3
                have HE := hid he
                have HP : Hid (w'.heap.size < p) := Nat.lt_of_lt_of_le hbl hp
                have HB4 := hid (HX.out.below hb4)
                clear hb4 he hp
                go_wp2
                go_ret2
                exact own_evil HI.out HH.out HM.out (by simp [Mem.fails, k2, k3, gc]) (HB4.out.spoil _ _) (HE.out.set (by have := HP.out; omega))
              · go_wp2_with fail
                refine (boo_good _ _ _ m.ct m.cb _ HOK.out.ct gc (by have h9 := (HLK.out _ HX.out.bel).look sKC; rw [m.atC] at h9; exact h9)).mono ?_
                rintro e w4 ⟨rfl, hw4⟩
                subst w4
                have HX5 := hid (HX.out.set HL.out (by omega) (.bool (if m.ct.tmod 4 = 2 then m.cb else false)) (by simp [Mem.ref, k2]))
                generalize (if m.ct.tmod 4 = 2 then m.cb else false) = cc at HX5 ⊢
                go_wp2_with fail
                generalize (wr.setCell ⟨w'.heap.size, i * 5 + 4, none⟩ (.bool cc)) = W5 at HX5 ⊢
                by_cases gb : m.bt.tmod 4 = 3
                · refine (boo_evil F _ _ _ m.bt m.bb _ (by rw [HX5.out.bel.tape]; exact HFW.out) gb (by have h9 := (HLK.out _ HX5.out.bel).look sKB; rw [m.atB] at h9; exact h9)).mono ?_
                  rintro e w4 ⟨p, rfl, hp, he, hb4⟩
                  have HE := hid he
                  have HB4 := hid (HX5.out.below hb4)
                  clear hb4 he hp
                  go_wp2
                  go_ret2
                  exact own_evil HI.out HH.out HM.out (by simp [Mem.fails, k2, k3, gb]) HB4.out.bel HE.out
                · refine (boo_good _ _ _ m.bt m.bb _ HOK.out.bt gb (by have h9 := (HLK.out _ HX5.out.bel).look sKB; rw [m.atB] at h9; exact h9)).mono ?_
                  rintro e w5 ⟨rfl, hw5⟩
                  subst w5
                  generalize (if m.bt.tmod 4 = 2 then m.bb else false) = cc2
                  go_wp2_with fail
                  refine (omit_c m (bs i) W5.heap.size _ (HLK.out _ (HX5.out.alloc _).bel) HOK.out gc gb (by simp) (by have h1 := HH.out.lt i m HM.out him; have h2 := HX5.out.le; omega) (cell_one_of W5 _ _ 0) (cell_one_of W5 _ _ 1)).mono ?_
                  rintro e w6 ⟨rfl, hmp, hgr⟩
                  have HF := hid (next_map HI.out HH.out HM.out (not_fails k2 k3 gc gb hgd) him (Nat.le_refl _) (HX5.out.alloc _).bel (HX5.out.alloc _).rf hmp hgr)
                  clear hmp hgr
                  go_wp2
                  go_roundw
                  case rel => exact ⟨i + 1, by omega, by go_num, rfl, HF.out⟩
                  case measure => simp [intOf]; omega
    · have hin : i = n := by omega
      subst hin
      have HE := hid (HN.out ▸ end_OI (HN.out ▸ hI))
      go_wp2
      go_ret2
      have e1 := HN.out
      subst e1
      exact end_OI hI

end Go.Proofs.YbulkegvaFmt
