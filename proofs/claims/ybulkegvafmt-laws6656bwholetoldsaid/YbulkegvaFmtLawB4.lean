/-
  DERIVED. The law at an array: the walk.
-/
import Derived.Test.YbulkegvaFmtLawD
import Derived.Deep.RegionHeld3
set_option linter.unusedVariables false
namespace Go.Proofs.YbulkegvaFmt
open Go.RowKit Go.Extern.Stop Go.Stop Go.Extern Go.Maps
attribute [local go_sem] Ybaf.call13 Ybaf.guard Ybaf.fmt0 Ybaf.fmt0r Ybaf.fmt1 Ybaf.fmt1r Ybaf.fmt2 Ybaf.fmt2r Ybaf.fmt3 Ybaf.fmt3r Ybaf.fmt4 Ybaf.fmt4r
attribute [local go_sem] Ybaf.act3_100 Ybaf.op3_100 Ybaf.str3 Ybaf.act9_115 Ybaf.op9_115 Ybaf.str9 Ybaf.asNil_9 Ybaf.as9_9 Ybaf.as4_9 Ybaf.as23_9 Ybaf.as24_9 Ybaf.as72_9
attribute [local go_sem] Ybaf.asNil_4 Ybaf.as9_4 Ybaf.as4_4 Ybaf.as23_4 Ybaf.as24_4 Ybaf.as72_4 Ybaf.asNil_23 Ybaf.as9_23 Ybaf.as4_23 Ybaf.as23_23 Ybaf.as24_23 Ybaf.as72_23
attribute [local go_sem] Ybaf.asNil_24 Ybaf.as9_24 Ybaf.as4_24 Ybaf.as23_24 Ybaf.as24_24 Ybaf.as72_24 Ybaf.as37_37 Ybaf.isIface20 Ybaf.isIface33 Ybaf.mapNil Ybaf.slNot Ybaf.slNil
attribute [local go_sem] Ybaf.ptNot Ybaf.ptNil

set_option maxRecDepth 100000 in
set_option maxHeartbeats 3200000 in
theorem law_arr4 (F : Interp) (Ms : List Mem) (top : Int) (ts : ByteArray) (ab ao n cap : Nat) (w : World) (hF : F.answers w.tape) (hn65 : n ≤ 65536) (hn : n = Ms.length) (hs : top.tmod 5 = 4)
    (hH : Held Ms ab ao w) (hok : ∀ (i : Nat) (m : Mem), Ms[i]? = some m → m.Ok)
    (htx : ∀ i : Nat, i ≤ 65536 → (FmtStop.textOf (F "fmt.Sprintf" [[109, 101, 116, 97, 100, 97, 116, 97, 46, 111, 119, 110, 101, 114, 82, 101, 102, 101, 114, 101, 110, 99, 101, 115, 91, 37, 100, 93], Ybaf.shape3, Go.Extern.Stop.digits 8 ((i : Int) % 18446744073709551616).toNat] 0)).size ≤ 100) :
    Calls Ybaf.prog 3 #[.int .u8 top, .string ts, .slice (some ⟨ab, ao, none⟩) n cap] w fun e w' => e = .returned (.bool true) ∧ Below w.heap.size w w' := by
  have hn' : ¬ (65536 : Int) < (n : Int) := by omega
  have hmm := @run_makeMap Ybaf.prog
  have hmk : ∀ w : World, (Instr.makeSlice 24 (.int .i64 (n : Int)) (.int .i64 (n : Int))).run Ybaf.prog w = .ok (.slice (some ⟨w.heap.size, 0, none⟩) n n) (w.alloc (.cells (madeCells #[.nilIface] n) 20)) := fun w => mk24 n hn65 w
  have HN := hid hn
  have HF := hid hF
  have HH := hid hH
  have HS := hid (L1.start Ms n w hn)
  have HOK := hid hok
  have HTX := hid htx
  clear hn hF hH hok htx
  go_enter Ybaf.func3, Ybaf.ntmps3
  go_wp2
  go_loopw [51] (fun iv wr => ∃ i : Nat, i ≤ n ∧ iv = .int .i64 i ∧ ∃ bs vs, L1 Ms w wr i bs vs) (fun i _ => n - (intOf i).toNat)
  case atStart => exact ⟨0, by omega, rfl, _, _, HS.out⟩
  case round =>
    clear hmk HS
    obtain ⟨i, hi, rfl, bs, vs, hI⟩ := hrel
    by_cases hlt : i < n
    · have hlt' : i < Ms.length := HN.out ▸ hlt
      obtain ⟨m, hm⟩ : ∃ m, Ms[i]? = some m := ⟨Ms[i], List.getElem?_eq_getElem hlt'⟩
      have hcl : ∀ (c : Nat) (v : Value), m.cells[c]? = some v → wr.cell? ⟨ab, ao + i * 13 + c, none⟩ = some v := fun c v hv => by rw [Nat.add_assoc]; exact ((HH.out.below hI.bel) i m hm).2 c v hv
      have d0 : wr.cell? ⟨ab, ao + i * 13, none⟩ = some (.int .u8 m.k) := hcl 0 _ rfl
      have d1 : wr.cell? ⟨ab, ao + i * 13 + 1, none⟩ = some (.int .u8 m.t0) := hcl 1 _ rfl
      have d2 : wr.cell? ⟨ab, ao + i * 13 + 2, none⟩ = some (.string m.s0) := hcl 2 _ rfl
      have d3 : wr.cell? ⟨ab, ao + i * 13 + 3, none⟩ = some (.int .u8 m.t1) := hcl 3 _ rfl
      have d4 : wr.cell? ⟨ab, ao + i * 13 + 4, none⟩ = some (.string m.s1) := hcl 4 _ rfl
      have d5 : wr.cell? ⟨ab, ao + i * 13 + 5, none⟩ = some (.int .u8 m.t2) := hcl 5 _ rfl
      have d6 : wr.cell? ⟨ab, ao + i * 13 + 6, none⟩ = some (.string m.s2) := hcl 6 _ rfl
      have d7 : wr.cell? ⟨ab, ao + i * 13 + 7, none⟩ = some (.int .u8 m.t3) := hcl 7 _ rfl
      have d8 : wr.cell? ⟨ab, ao + i * 13 + 8, none⟩ = some (.string m.s3) := hcl 8 _ rfl
      have d9 : wr.cell? ⟨ab, ao + i * 13 + 9, none⟩ = some (.int .u8 m.ct) := hcl 9 _ rfl
      have d10 : wr.cell? ⟨ab, ao + i * 13 + 10, none⟩ = some (.bool m.cb) := hcl 10 _ rfl
      have d11 : wr.cell? ⟨ab, ao + i * 13 + 11, none⟩ = some (.int .u8 m.bt) := hcl 11 _ rfl
      have d12 : wr.cell? ⟨ab, ao + i * 13 + 12, none⟩ = some (.bool m.bb) := hcl 12 _ rfl
      clear hcl
      have HM := hid hm
      have HI := hid hI
      clear hm hI hlt'
      go_wp2_with fail
      refine (build_c m wr).mono ?_
      rintro e w4 ⟨b, rfl, hb, hb4, hmp, hbel⟩
      obtain ⟨z1, z2⟩ := HI.out.slot HM.out hbel
      have HNX := hid (HI.out.next HM.out hb hb4 hmp hbel)
      clear hb hb4 hmp hbel d0 d1 d2 d3 d4 d5 d6 d7 d8 d9 d10 d11 d12
      have hvf := m.val_form b
      generalize m.val b = v at HNX hvf ⊢
      rcases hvf with rfl | ⟨t, x, rfl⟩
      · go_wp2
        go_roundw
        case rel => exact ⟨i + 1, by omega, by go_num, _, _, HNX.out⟩
        case measure => simp [intOf]; omega
      · go_wp2
        go_roundw
        case rel => exact ⟨i + 1, by omega, by go_num, _, _, HNX.out⟩
        case measure => simp [intOf]; omega
    · have hin : i = n := by omega
      subst hin
      have HI := hid hI
      clear hI
      go_wp2_with (first | (at_mapUpdate; refine wpList_upd _ rfl _ _ _ rfl w.heap.size _ _ KO _ rfl HI.out.mt rfl rfl sKO (by omega) rfl ?_; intro w1 h1 t1; have H1 := hid h1; have HT := hid t1; clear h1 t1))
      refine (own_arr F Ms bs (w.heap.size + 1) i vs _ w1 (HI.out.ready HT.out HN.out HF.out HTX.out HOK.out (by omega)) HN.out (H1.out.look sKO)).mono ?_
      rintro e w3 ⟨hk3, ⟨i0, m0, p, hg0, hm0, hf0, rfl, he, hmp⟩ | ⟨hgn, br, rfl, hrf, hmp⟩⟩
      · have hi0 : i0 < i := HN.out ▸ (List.getElem?_eq_some_iff.1 hm0).1
        have HA := hid (A3.start HH.out HI.out HN.out HT.out H1.out hk3 hmp)
        have HE := hid he
        have HG0 := hid hg0
        have HM0 := hid hm0
        have HF0 := hid hf0
        clear hk3 he hmp hg0 hm0 hf0
        go_wp2
        go_loopw [13, 75] (fun fv jv wr => ∃ j : Nat, j ≤ i0 ∧ jv = .int .i64 j ∧ fv = .int .i64 (-1) ∧ A3 Ms ab ao bs vs _ i0 w wr ∧ ErrAt wr p) (fun _ j _ => i - (intOf j).toNat)
        case atStart => exact ⟨0, by omega, rfl, rfl, HA.out, HE.out⟩
        case round =>
          obtain ⟨wq, hwq⟩ : ∃ x : World, x = wr := ⟨wr, rfl⟩
          subst hwq
          obtain ⟨j, hj, rfl, rfl, hA, hE⟩ := hrel
          have hji : j < i := by omega
          obtain ⟨m, hm⟩ : ∃ m, Ms[j]? = some m := ⟨Ms[j]'(HN.out ▸ hji), List.getElem?_eq_getElem _⟩
          have d0 : wq.cell? ⟨ab, ao + j * 13, none⟩ = some (.int .u8 m.k) := hA.held.cells hm 0 _ rfl
          have d1 : wq.cell? ⟨ab, ao + j * 13 + 1, none⟩ = some (.int .u8 m.t0) := hA.held.cells hm 1 _ rfl
          have d2 : wq.cell? ⟨ab, ao + j * 13 + 2, none⟩ = some (.string m.s0) := hA.held.cells hm 2 _ rfl
          have d3 : wq.cell? ⟨ab, ao + j * 13 + 3, none⟩ = some (.int .u8 m.t1) := hA.held.cells hm 3 _ rfl
          have d4 : wq.cell? ⟨ab, ao + j * 13 + 4, none⟩ = some (.string m.s1) := hA.held.cells hm 4 _ rfl
          have d5 : wq.cell? ⟨ab, ao + j * 13 + 5, none⟩ = some (.int .u8 m.t2) := hA.held.cells hm 5 _ rfl
          have d6 : wq.cell? ⟨ab, ao + j * 13 + 6, none⟩ = some (.string m.s2) := hA.held.cells hm 6 _ rfl
          have d7 : wq.cell? ⟨ab, ao + j * 13 + 7, none⟩ = some (.int .u8 m.t3) := hA.held.cells hm 7 _ rfl
          have d8 : wq.cell? ⟨ab, ao + j * 13 + 8, none⟩ = some (.string m.s3) := hA.held.cells hm 8 _ rfl
          have d9 : wq.cell? ⟨ab, ao + j * 13 + 9, none⟩ = some (.int .u8 m.ct) := hA.held.cells hm 9 _ rfl
          have d10 : wq.cell? ⟨ab, ao + j * 13 + 10, none⟩ = some (.bool m.cb) := hA.held.cells hm 10 _ rfl
          have d11 : wq.cell? ⟨ab, ao + j * 13 + 11, none⟩ = some (.int .u8 m.bt) := hA.held.cells hm 11 _ rfl
          have d12 : wq.cell? ⟨ab, ao + j * 13 + 12, none⟩ = some (.bool m.bb) := hA.held.cells hm 12 _ rfl
          have HA2 := hid hA
          have HE2 := hid hE
          have HM2 := hid hm
          clear hA hE hm HA HE
          by_cases hjj : j = i0
          · subst hjj
            have hmf : m.fails = true := by
              have h1 := HM2.out
              rw [HM0.out] at h1
              cases h1
              exact HF0.out
            go_wp2_with fail
            refine (fails_c m wq).mono ?_
            rintro e w4 ⟨rfl, hb4⟩
            rw [hmf]
            have hA4 := HA2.out.below hb4
            obtain ⟨y0, y1, y2, y4, y5, y6⟩ := err_cells (HE2.out.below hb4)
            have hlen : ∀ ty, (Builtin.len_ #[23] ty #[.map (some w.heap.size)]).run Ybaf.prog w4 = .ok (.int .i64 1) w4 := fun ty => hA4.mt.len ty
            have hlk : (Instr.lookup 23 (.map (some w.heap.size)) (.string ⟨#[111, 119, 110, 101, 114, 82, 101, 102, 101, 114, 101, 110, 99, 101, 115]⟩) false).run Ybaf.prog w4 = .ok (.iface 24 (.slice (some ⟨w.heap.size + 1, 0, none⟩) i i)) w4 := hA4.mt.look sKO
            have HA4 := hid hA4
            clear hb4 hA4 d0 d1 d2 d3 d4 d5 d6 d7 d8 d9 d10 d11 d12
            go_wp2
            go_loopw [248] (fun kv wr => ∃ k : Nat, k ≤ i ∧ kv = .int .i64 k ∧ A3 Ms ab ao bs vs _ j w wr) (fun k _ => i - (intOf k).toNat)
            case atStart => exact ⟨0, by omega, rfl, HA4.out⟩
            case round =>
              obtain ⟨k, hk, rfl, hA⟩ := hrel
              clear HA4 hlen hlk y0 y1 y2 y4 y5 y6
              by_cases hki : k < i
              · obtain ⟨m, hm⟩ : ∃ m, Ms[k]? = some m := ⟨Ms[k]'(HN.out ▸ hki), List.getElem?_eq_getElem _⟩
                have d0 : wr.cell? ⟨ab, ao + k * 13, none⟩ = some (.int .u8 m.k) := hA.held.cells hm 0 _ rfl
                have d1 : wr.cell? ⟨ab, ao + k * 13 + 1, none⟩ = some (.int .u8 m.t0) := hA.held.cells hm 1 _ rfl
                have d2 : wr.cell? ⟨ab, ao + k * 13 + 2, none⟩ = some (.string m.s0) := hA.held.cells hm 2 _ rfl
                have d3 : wr.cell? ⟨ab, ao + k * 13 + 3, none⟩ = some (.int .u8 m.t1) := hA.held.cells hm 3 _ rfl
                have d4 : wr.cell? ⟨ab, ao + k * 13 + 4, none⟩ = some (.string m.s1) := hA.held.cells hm 4 _ rfl
                have d5 : wr.cell? ⟨ab, ao + k * 13 + 5, none⟩ = some (.int .u8 m.t2) := hA.held.cells hm 5 _ rfl
                have d6 : wr.cell? ⟨ab, ao + k * 13 + 6, none⟩ = some (.string m.s2) := hA.held.cells hm 6 _ rfl
                have d7 : wr.cell? ⟨ab, ao + k * 13 + 7, none⟩ = some (.int .u8 m.t3) := hA.held.cells hm 7 _ rfl
                have d8 : wr.cell? ⟨ab, ao + k * 13 + 8, none⟩ = some (.string m.s3) := hA.held.cells hm 8 _ rfl
                have d9 : wr.cell? ⟨ab, ao + k * 13 + 9, none⟩ = some (.int .u8 m.ct) := hA.held.cells hm 9 _ rfl
                have d10 : wr.cell? ⟨ab, ao + k * 13 + 10, none⟩ = some (.bool m.cb) := hA.held.cells hm 10 _ rfl
                have d11 : wr.cell? ⟨ab, ao + k * 13 + 11, none⟩ = some (.int .u8 m.bt) := hA.held.cells hm 11 _ rfl
                have d12 : wr.cell? ⟨ab, ao + k * 13 + 12, none⟩ = some (.bool m.bb) := hA.held.cells hm 12 _ rfl
                have g1 : wr.cell? ⟨w.heap.size + 1, k, none⟩ = some (m.val (bs k)) := cell_at hA.arr (HI.out.vals k m hm hki)
                have hab : ab < wr.heap.size := (hA.held k m hm).1
                have hbb : w.heap.size + 1 < wr.heap.size := (Array.getElem?_eq_some_iff.1 hA.arr).1
                have HA6 := hid hA
                by_cases hkj : k < j
                · have HMK : Hid (m.isMap → MapIs wr (bs k) (m.f6 true true) (m.c6 true true)) := fun him => by
                    have h9 := HA6.out.maps k m hm him
                    have e9 : decide (k < j) = true := by simpa using hkj
                    rw [e9] at h9; exact h9
                  clear hA hm
                  go_wp2_with fail
                  go_region_held3 (fun w'' => w''.cell? ⟨ab, ao + k * 13, none⟩ = some (.int .u8 m.k) ∧ w''.cell? ⟨ab, ao + k * 13 + 1, none⟩ = some (.int .u8 m.t0) ∧ w''.cell? ⟨ab, ao + k * 13 + 2, none⟩ = some (.string m.s0) ∧ w''.cell? ⟨ab, ao + k * 13 + 3, none⟩ = some (.int .u8 m.t1) ∧ w''.cell? ⟨ab, ao + k * 13 + 4, none⟩ = some (.string m.s1) ∧ w''.cell? ⟨ab, ao + k * 13 + 5, none⟩ = some (.int .u8 m.t2) ∧ w''.cell? ⟨ab, ao + k * 13 + 6, none⟩ = some (.string m.s2) ∧ w''.cell? ⟨ab, ao + k * 13 + 7, none⟩ = some (.int .u8 m.t3) ∧ w''.cell? ⟨ab, ao + k * 13 + 8, none⟩ = some (.string m.s3) ∧ w''.cell? ⟨ab, ao + k * 13 + 9, none⟩ = some (.int .u8 m.ct) ∧ w''.cell? ⟨ab, ao + k * 13 + 10, none⟩ = some (.bool m.cb) ∧ w''.cell? ⟨ab, ao + k * 13 + 11, none⟩ = some (.int .u8 m.bt) ∧ w''.cell? ⟨ab, ao + k * 13 + 12, none⟩ = some (.bool m.bb) ∧ w''.cell? ⟨w.heap.size + 1, k, none⟩ = some (m.val (bs k))) (go_keep) (first | (go_at_call 8; refine (check_c m (bs k) true wr.drew (fun him => (HMK.out him).same rfl)).mono ?_; rintro e w5 ⟨rfl, hb5⟩; have q0 := (hb5.cell (p := ⟨ab, ao + k * 13, none⟩) hab).trans d0; have q1 := (hb5.cell (p := ⟨ab, ao + k * 13 + 1, none⟩) hab).trans d1; have q2 := (hb5.cell (p := ⟨ab, ao + k * 13 + 2, none⟩) hab).trans d2; have q3 := (hb5.cell (p := ⟨ab, ao + k * 13 + 3, none⟩) hab).trans d3; have q4 := (hb5.cell (p := ⟨ab, ao + k * 13 + 4, none⟩) hab).trans d4; have q5 := (hb5.cell (p := ⟨ab, ao + k * 13 + 5, none⟩) hab).trans d5; have q6 := (hb5.cell (p := ⟨ab, ao + k * 13 + 6, none⟩) hab).trans d6; have q7 := (hb5.cell (p := ⟨ab, ao + k * 13 + 7, none⟩) hab).trans d7; have q8 := (hb5.cell (p := ⟨ab, ao + k * 13 + 8, none⟩) hab).trans d8; have q9 := (hb5.cell (p := ⟨ab, ao + k * 13 + 9, none⟩) hab).trans d9; have q10 := (hb5.cell (p := ⟨ab, ao + k * 13 + 10, none⟩) hab).trans d10; have q11 := (hb5.cell (p := ⟨ab, ao + k * 13 + 11, none⟩) hab).trans d11; have q12 := (hb5.cell (p := ⟨ab, ao + k * 13 + 12, none⟩) hab).trans d12; have q13 := (hb5.cell (p := ⟨w.heap.size + 1, k, none⟩) hbb).trans g1; have HA5 := hid (HA6.out.below (Below.trans ((Below.refl _ _).drew) hb5)); clear hb5))
                  go_wp2
                  go_roundw
                  case rel => exact ⟨k + 1, by omega, by go_num, HA5.out⟩
                  case measure => simp [intOf]; omega
                · have HMK : Hid (m.isMap → MapIs wr (bs k) (m.f6 false false) (m.c6 false false)) := fun him => by
                    have h9 := HA6.out.maps k m hm him
                    have e9 : decide (k < j) = false := by simpa using hkj
                    rw [e9] at h9; exact h9
                  clear hA hm
                  go_wp2_with fail
                  go_region_held3 (fun w'' => w''.cell? ⟨ab, ao + k * 13, none⟩ = some (.int .u8 m.k) ∧ w''.cell? ⟨ab, ao + k * 13 + 1, none⟩ = some (.int .u8 m.t0) ∧ w''.cell? ⟨ab, ao + k * 13 + 2, none⟩ = some (.string m.s0) ∧ w''.cell? ⟨ab, ao + k * 13 + 3, none⟩ = some (.int .u8 m.t1) ∧ w''.cell? ⟨ab, ao + k * 13 + 4, none⟩ = some (.string m.s1) ∧ w''.cell? ⟨ab, ao + k * 13 + 5, none⟩ = some (.int .u8 m.t2) ∧ w''.cell? ⟨ab, ao + k * 13 + 6, none⟩ = some (.string m.s2) ∧ w''.cell? ⟨ab, ao + k * 13 + 7, none⟩ = some (.int .u8 m.t3) ∧ w''.cell? ⟨ab, ao + k * 13 + 8, none⟩ = some (.string m.s3) ∧ w''.cell? ⟨ab, ao + k * 13 + 9, none⟩ = some (.int .u8 m.ct) ∧ w''.cell? ⟨ab, ao + k * 13 + 10, none⟩ = some (.bool m.cb) ∧ w''.cell? ⟨ab, ao + k * 13 + 11, none⟩ = some (.int .u8 m.bt) ∧ w''.cell? ⟨ab, ao + k * 13 + 12, none⟩ = some (.bool m.bb) ∧ w''.cell? ⟨w.heap.size + 1, k, none⟩ = some (m.val (bs k))) (go_keep) (first | (go_at_call 8; refine (check_c m (bs k) false wr.drew (fun him => (HMK.out him).same rfl)).mono ?_; rintro e w5 ⟨rfl, hb5⟩; have q0 := (hb5.cell (p := ⟨ab, ao + k * 13, none⟩) hab).trans d0; have q1 := (hb5.cell (p := ⟨ab, ao + k * 13 + 1, none⟩) hab).trans d1; have q2 := (hb5.cell (p := ⟨ab, ao + k * 13 + 2, none⟩) hab).trans d2; have q3 := (hb5.cell (p := ⟨ab, ao + k * 13 + 3, none⟩) hab).trans d3; have q4 := (hb5.cell (p := ⟨ab, ao + k * 13 + 4, none⟩) hab).trans d4; have q5 := (hb5.cell (p := ⟨ab, ao + k * 13 + 5, none⟩) hab).trans d5; have q6 := (hb5.cell (p := ⟨ab, ao + k * 13 + 6, none⟩) hab).trans d6; have q7 := (hb5.cell (p := ⟨ab, ao + k * 13 + 7, none⟩) hab).trans d7; have q8 := (hb5.cell (p := ⟨ab, ao + k * 13 + 8, none⟩) hab).trans d8; have q9 := (hb5.cell (p := ⟨ab, ao + k * 13 + 9, none⟩) hab).trans d9; have q10 := (hb5.cell (p := ⟨ab, ao + k * 13 + 10, none⟩) hab).trans d10; have q11 := (hb5.cell (p := ⟨ab, ao + k * 13 + 11, none⟩) hab).trans d11; have q12 := (hb5.cell (p := ⟨ab, ao + k * 13 + 12, none⟩) hab).trans d12; have q13 := (hb5.cell (p := ⟨w.heap.size + 1, k, none⟩) hbb).trans g1; have HA5 := hid (HA6.out.below (Below.trans ((Below.refl _ _).drew) hb5)); clear hb5))
                  go_wp2
                  go_roundw
                  case rel => exact ⟨k + 1, by omega, by go_num, HA5.out⟩
                  case measure => simp [intOf]; omega
              · have HA6 := hid hA
                clear hA
                go_wp2
                go_ret
                exact ⟨rfl, HA6.out.bel⟩
          · go_wp2_with fail
            refine (fails_c m wq).mono ?_
            rintro e w4 ⟨rfl, hb4⟩
            rw [HG0.out j m HM2.out (by omega)]
            have HA4 := hid (HA2.out.below hb4)
            have HE4 := hid (HE2.out.below hb4)
            clear hb4 d0 d1 d2 d3 d4 d5 d6 d7 d8 d9 d10 d11 d12
            go_wp2
            go_roundw
            case rel => exact ⟨j + 1, by omega, by go_num, rfl, HA4.out, HE4.out⟩
            case measure => simp [intOf]; omega
      · have HA := hid (A3.start HH.out HI.out HN.out HT.out H1.out hk3 hmp)
        have HE := hid hrf
        have HGN := hid hgn
        clear hk3 hrf hmp hgn
        go_wp2
        go_loopw [13, 75] (fun fv jv wr => ∃ j : Nat, j ≤ i ∧ jv = .int .i64 j ∧ fv = .int .i64 (-1) ∧ A3 Ms ab ao bs vs _ Ms.length w wr ∧ RF Ms br Ms.length 0 #[] wr) (fun _ j _ => i - (intOf j).toNat)
        case atStart => exact ⟨0, by omega, rfl, rfl, HA.out, HE.out⟩
        case round =>
          obtain ⟨wq, hwq⟩ : ∃ x : World, x = wr := ⟨wr, rfl⟩
          subst hwq
          obtain ⟨j, hj, rfl, rfl, hA, hE⟩ := hrel
          by_cases hji : j < i
          rotate_left
          · have hje : j = i := by omega
            subst hje
            have hlen : ∀ ty, (Builtin.len_ #[23] ty #[.map (some w.heap.size)]).run Ybaf.prog wq = .ok (.int .i64 1) wq := fun ty => hA.mt.len ty
            have HA4 := hid hA
            have HE4 := hid hE
            have HNN := HN.out
            rw [← HNN] 
            clear hA hE HA HE HNN
            go_wp2_with fail
            go_loopw [19] (fun kv wr => ∃ k : Nat, k ≤ j ∧ kv = .int .i64 k ∧ A3 Ms ab ao bs vs _ Ms.length w wr ∧ RF Ms br Ms.length 0 #[] wr) (fun k _ => j - (intOf k).toNat)
            case atStart => exact ⟨0, by omega, rfl, HA4.out, HE4.out⟩
            case round =>
              obtain ⟨k, hk, rfl, hA, hE⟩ := hrel
              clear HA4 HE4 hlen
              by_cases hki : k < j
              · obtain ⟨m, hm⟩ : ∃ m, Ms[k]? = some m := ⟨Ms[k]'(HN.out ▸ hki), List.getElem?_eq_getElem _⟩
                obtain ⟨a0, a1, a2, a3, c4, hrf⟩ := ref_form m
                have d0 : wr.cell? ⟨ab, ao + k * 13, none⟩ = some (.int .u8 m.k) := hA.held.cells hm 0 _ rfl
                have d1 : wr.cell? ⟨ab, ao + k * 13 + 1, none⟩ = some (.int .u8 m.t0) := hA.held.cells hm 1 _ rfl
                have d2 : wr.cell? ⟨ab, ao + k * 13 + 2, none⟩ = some (.string m.s0) := hA.held.cells hm 2 _ rfl
                have d3 : wr.cell? ⟨ab, ao + k * 13 + 3, none⟩ = some (.int .u8 m.t1) := hA.held.cells hm 3 _ rfl
                have d4 : wr.cell? ⟨ab, ao + k * 13 + 4, none⟩ = some (.string m.s1) := hA.held.cells hm 4 _ rfl
                have d5 : wr.cell? ⟨ab, ao + k * 13 + 5, none⟩ = some (.int .u8 m.t2) := hA.held.cells hm 5 _ rfl
                have d6 : wr.cell? ⟨ab, ao + k * 13 + 6, none⟩ = some (.string m.s2) := hA.held.cells hm 6 _ rfl
                have d7 : wr.cell? ⟨ab, ao + k * 13 + 7, none⟩ = some (.int .u8 m.t3) := hA.held.cells hm 7 _ rfl
                have d8 : wr.cell? ⟨ab, ao + k * 13 + 8, none⟩ = some (.string m.s3) := hA.held.cells hm 8 _ rfl
                have d9 : wr.cell? ⟨ab, ao + k * 13 + 9, none⟩ = some (.int .u8 m.ct) := hA.held.cells hm 9 _ rfl
                have d10 : wr.cell? ⟨ab, ao + k * 13 + 10, none⟩ = some (.bool m.cb) := hA.held.cells hm 10 _ rfl
                have d11 : wr.cell? ⟨ab, ao + k * 13 + 11, none⟩ = some (.int .u8 m.bt) := hA.held.cells hm 11 _ rfl
                have d12 : wr.cell? ⟨ab, ao + k * 13 + 12, none⟩ = some (.bool m.bb) := hA.held.cells hm 12 _ rfl
                have r0 : wr.cell? ⟨br, k * 5, none⟩ = some (.string a0) := hE.refcell hm 0 (by omega) _ (by rw [hrf]; rfl)
                have r1 : wr.cell? ⟨br, k * 5 + 1, none⟩ = some (.string a1) := hE.refcell hm 1 (by omega) _ (by rw [hrf]; rfl)
                have r2 : wr.cell? ⟨br, k * 5 + 2, none⟩ = some (.string a2) := hE.refcell hm 2 (by omega) _ (by rw [hrf]; rfl)
                have r3 : wr.cell? ⟨br, k * 5 + 3, none⟩ = some (.string a3) := hE.refcell hm 3 (by omega) _ (by rw [hrf]; rfl)
                have r4 : wr.cell? ⟨br, k * 5 + 4, none⟩ = some (.bool c4) := hE.refcell hm 4 (by omega) _ (by rw [hrf]; rfl)
                have hab : ab < wr.heap.size := (hA.held k m hm).1
                have hbr : br < wr.heap.size := hE.lt
                have hne := neqRef a0 a1 a2 a3 c4
                unfold refV at hne hrf
                have HRF := hid hrf
                have HA6 := hid hA
                have HE6 := hid hE
                clear hA hE hm hrf
                go_wp2_with fail
                go_region_held3 (fun w'' => w''.cell? ⟨ab, ao + k * 13, none⟩ = some (.int .u8 m.k) ∧ w''.cell? ⟨ab, ao + k * 13 + 1, none⟩ = some (.int .u8 m.t0) ∧ w''.cell? ⟨ab, ao + k * 13 + 2, none⟩ = some (.string m.s0) ∧ w''.cell? ⟨ab, ao + k * 13 + 3, none⟩ = some (.int .u8 m.t1) ∧ w''.cell? ⟨ab, ao + k * 13 + 4, none⟩ = some (.string m.s1) ∧ w''.cell? ⟨ab, ao + k * 13 + 5, none⟩ = some (.int .u8 m.t2) ∧ w''.cell? ⟨ab, ao + k * 13 + 6, none⟩ = some (.string m.s2) ∧ w''.cell? ⟨ab, ao + k * 13 + 7, none⟩ = some (.int .u8 m.t3) ∧ w''.cell? ⟨ab, ao + k * 13 + 8, none⟩ = some (.string m.s3) ∧ w''.cell? ⟨ab, ao + k * 13 + 9, none⟩ = some (.int .u8 m.ct) ∧ w''.cell? ⟨ab, ao + k * 13 + 10, none⟩ = some (.bool m.cb) ∧ w''.cell? ⟨ab, ao + k * 13 + 11, none⟩ = some (.int .u8 m.bt) ∧ w''.cell? ⟨ab, ao + k * 13 + 12, none⟩ = some (.bool m.bb) ∧ w''.cell? ⟨br, k * 5, none⟩ = some (.string a0) ∧ w''.cell? ⟨br, k * 5 + 1, none⟩ = some (.string a1) ∧ w''.cell? ⟨br, k * 5 + 2, none⟩ = some (.string a2) ∧ w''.cell? ⟨br, k * 5 + 3, none⟩ = some (.string a3) ∧ w''.cell? ⟨br, k * 5 + 4, none⟩ = some (.bool c4)) (go_keep) (first | (go_at_call 7; refine (ref_c m wr.drew).mono ?_; rw [HRF.out]; rintro e w5 ⟨rfl, hb5⟩; have q0 := (hb5.cell (p := ⟨ab, ao + k * 13, none⟩) hab).trans d0; have q1 := (hb5.cell (p := ⟨ab, ao + k * 13 + 1, none⟩) hab).trans d1; have q2 := (hb5.cell (p := ⟨ab, ao + k * 13 + 2, none⟩) hab).trans d2; have q3 := (hb5.cell (p := ⟨ab, ao + k * 13 + 3, none⟩) hab).trans d3; have q4 := (hb5.cell (p := ⟨ab, ao + k * 13 + 4, none⟩) hab).trans d4; have q5 := (hb5.cell (p := ⟨ab, ao + k * 13 + 5, none⟩) hab).trans d5; have q6 := (hb5.cell (p := ⟨ab, ao + k * 13 + 6, none⟩) hab).trans d6; have q7 := (hb5.cell (p := ⟨ab, ao + k * 13 + 7, none⟩) hab).trans d7; have q8 := (hb5.cell (p := ⟨ab, ao + k * 13 + 8, none⟩) hab).trans d8; have q9 := (hb5.cell (p := ⟨ab, ao + k * 13 + 9, none⟩) hab).trans d9; have q10 := (hb5.cell (p := ⟨ab, ao + k * 13 + 10, none⟩) hab).trans d10; have q11 := (hb5.cell (p := ⟨ab, ao + k * 13 + 11, none⟩) hab).trans d11; have q12 := (hb5.cell (p := ⟨ab, ao + k * 13 + 12, none⟩) hab).trans d12; have q13 := (hb5.cell (p := ⟨br, k * 5, none⟩) hbr).trans r0; have q14 := (hb5.cell (p := ⟨br, k * 5 + 1, none⟩) hbr).trans r1; have q15 := (hb5.cell (p := ⟨br, k * 5 + 2, none⟩) hbr).trans r2; have q16 := (hb5.cell (p := ⟨br, k * 5 + 3, none⟩) hbr).trans r3; have q17 := (hb5.cell (p := ⟨br, k * 5 + 4, none⟩) hbr).trans r4; have HA5 := hid (HA6.out.below (Below.trans ((Below.refl _ _).drew) hb5)); have HE5 := hid (HE6.out.below (Below.trans ((Below.refl _ _).drew) hb5)); clear hb5))
                go_wp2
                go_roundw
                case rel => exact ⟨k + 1, by omega, by go_num, HA5.out, HE5.out⟩
                case measure => simp [intOf]; omega
              · have hlen : ∀ ty, (Builtin.len_ #[23] ty #[.map (some w.heap.size)]).run Ybaf.prog wr = .ok (.int .i64 1) wr := fun ty => hA.mt.len ty
                have hlk : (Instr.lookup 23 (.map (some w.heap.size)) (.string ⟨#[111, 119, 110, 101, 114, 82, 101, 102, 101, 114, 101, 110, 99, 101, 115]⟩) false).run Ybaf.prog wr = .ok (.iface 24 (.slice (some ⟨w.heap.size + 1, 0, none⟩) j j)) wr := hA.mt.look sKO
                have HA4 := hid hA
                clear hA hE
                obtain ⟨wq3, hwq3⟩ : ∃ x : World, x = wr := ⟨wr, rfl⟩
                subst hwq3
                go_wp2
                go_loopw [248] (fun kv wr => ∃ k : Nat, k ≤ j ∧ kv = .int .i64 k ∧ A3 Ms ab ao bs vs _ Ms.length w wr) (fun k _ => j - (intOf k).toNat)
                case atStart => exact ⟨0, by omega, rfl, HA4.out⟩
                case round =>
                  obtain ⟨k, hk, rfl, hA⟩ := hrel
                  clear HA4 hlen hlk
                  by_cases hki : k < j
                  · obtain ⟨m, hm⟩ : ∃ m, Ms[k]? = some m := ⟨Ms[k]'(HN.out ▸ hki), List.getElem?_eq_getElem _⟩
                    have d0 : wr.cell? ⟨ab, ao + k * 13, none⟩ = some (.int .u8 m.k) := hA.held.cells hm 0 _ rfl
                    have d1 : wr.cell? ⟨ab, ao + k * 13 + 1, none⟩ = some (.int .u8 m.t0) := hA.held.cells hm 1 _ rfl
                    have d2 : wr.cell? ⟨ab, ao + k * 13 + 2, none⟩ = some (.string m.s0) := hA.held.cells hm 2 _ rfl
                    have d3 : wr.cell? ⟨ab, ao + k * 13 + 3, none⟩ = some (.int .u8 m.t1) := hA.held.cells hm 3 _ rfl
                    have d4 : wr.cell? ⟨ab, ao + k * 13 + 4, none⟩ = some (.string m.s1) := hA.held.cells hm 4 _ rfl
                    have d5 : wr.cell? ⟨ab, ao + k * 13 + 5, none⟩ = some (.int .u8 m.t2) := hA.held.cells hm 5 _ rfl
                    have d6 : wr.cell? ⟨ab, ao + k * 13 + 6, none⟩ = some (.string m.s2) := hA.held.cells hm 6 _ rfl
                    have d7 : wr.cell? ⟨ab, ao + k * 13 + 7, none⟩ = some (.int .u8 m.t3) := hA.held.cells hm 7 _ rfl
                    have d8 : wr.cell? ⟨ab, ao + k * 13 + 8, none⟩ = some (.string m.s3) := hA.held.cells hm 8 _ rfl
                    have d9 : wr.cell? ⟨ab, ao + k * 13 + 9, none⟩ = some (.int .u8 m.ct) := hA.held.cells hm 9 _ rfl
                    have d10 : wr.cell? ⟨ab, ao + k * 13 + 10, none⟩ = some (.bool m.cb) := hA.held.cells hm 10 _ rfl
                    have d11 : wr.cell? ⟨ab, ao + k * 13 + 11, none⟩ = some (.int .u8 m.bt) := hA.held.cells hm 11 _ rfl
                    have d12 : wr.cell? ⟨ab, ao + k * 13 + 12, none⟩ = some (.bool m.bb) := hA.held.cells hm 12 _ rfl
                    have g1 : wr.cell? ⟨w.heap.size + 1, k, none⟩ = some (m.val (bs k)) := cell_at hA.arr (HI.out.vals k m hm hki)
                    have hab : ab < wr.heap.size := (hA.held k m hm).1
                    have hbb : w.heap.size + 1 < wr.heap.size := (Array.getElem?_eq_some_iff.1 hA.arr).1
                    have HA6 := hid hA
                    have HMK : Hid (m.isMap → MapIs wr (bs k) (m.f6 true true) (m.c6 true true)) := fun him => by
                      have h9 := HA6.out.maps k m hm him
                      have e9 : decide (k < Ms.length) = true := by simpa using (List.getElem?_eq_some_iff.1 hm).1
                      rw [e9] at h9; exact h9
                    clear hA hm
                    go_wp2_with fail
                    go_region_held3 (fun w'' => w''.cell? ⟨ab, ao + k * 13, none⟩ = some (.int .u8 m.k) ∧ w''.cell? ⟨ab, ao + k * 13 + 1, none⟩ = some (.int .u8 m.t0) ∧ w''.cell? ⟨ab, ao + k * 13 + 2, none⟩ = some (.string m.s0) ∧ w''.cell? ⟨ab, ao + k * 13 + 3, none⟩ = some (.int .u8 m.t1) ∧ w''.cell? ⟨ab, ao + k * 13 + 4, none⟩ = some (.string m.s1) ∧ w''.cell? ⟨ab, ao + k * 13 + 5, none⟩ = some (.int .u8 m.t2) ∧ w''.cell? ⟨ab, ao + k * 13 + 6, none⟩ = some (.string m.s2) ∧ w''.cell? ⟨ab, ao + k * 13 + 7, none⟩ = some (.int .u8 m.t3) ∧ w''.cell? ⟨ab, ao + k * 13 + 8, none⟩ = some (.string m.s3) ∧ w''.cell? ⟨ab, ao + k * 13 + 9, none⟩ = some (.int .u8 m.ct) ∧ w''.cell? ⟨ab, ao + k * 13 + 10, none⟩ = some (.bool m.cb) ∧ w''.cell? ⟨ab, ao + k * 13 + 11, none⟩ = some (.int .u8 m.bt) ∧ w''.cell? ⟨ab, ao + k * 13 + 12, none⟩ = some (.bool m.bb) ∧ w''.cell? ⟨w.heap.size + 1, k, none⟩ = some (m.val (bs k))) (go_keep) (first | (go_at_call 8; refine (check_c m (bs k) true wr.drew (fun him => (HMK.out him).same rfl)).mono ?_; rintro e w5 ⟨rfl, hb5⟩; have q0 := (hb5.cell (p := ⟨ab, ao + k * 13, none⟩) hab).trans d0; have q1 := (hb5.cell (p := ⟨ab, ao + k * 13 + 1, none⟩) hab).trans d1; have q2 := (hb5.cell (p := ⟨ab, ao + k * 13 + 2, none⟩) hab).trans d2; have q3 := (hb5.cell (p := ⟨ab, ao + k * 13 + 3, none⟩) hab).trans d3; have q4 := (hb5.cell (p := ⟨ab, ao + k * 13 + 4, none⟩) hab).trans d4; have q5 := (hb5.cell (p := ⟨ab, ao + k * 13 + 5, none⟩) hab).trans d5; have q6 := (hb5.cell (p := ⟨ab, ao + k * 13 + 6, none⟩) hab).trans d6; have q7 := (hb5.cell (p := ⟨ab, ao + k * 13 + 7, none⟩) hab).trans d7; have q8 := (hb5.cell (p := ⟨ab, ao + k * 13 + 8, none⟩) hab).trans d8; have q9 := (hb5.cell (p := ⟨ab, ao + k * 13 + 9, none⟩) hab).trans d9; have q10 := (hb5.cell (p := ⟨ab, ao + k * 13 + 10, none⟩) hab).trans d10; have q11 := (hb5.cell (p := ⟨ab, ao + k * 13 + 11, none⟩) hab).trans d11; have q12 := (hb5.cell (p := ⟨ab, ao + k * 13 + 12, none⟩) hab).trans d12; have q13 := (hb5.cell (p := ⟨w.heap.size + 1, k, none⟩) hbb).trans g1; have HA5 := hid (HA6.out.below (Below.trans ((Below.refl _ _).drew) hb5)); clear hb5))
                    go_wp2
                    go_roundw
                    case rel => exact ⟨k + 1, by omega, by go_num, HA5.out⟩
                    case measure => simp [intOf]; omega
                  · have HA6 := hid hA
                    clear hA
                    go_wp2
                    go_ret
                    exact ⟨rfl, HA6.out.bel⟩
          obtain ⟨m, hm⟩ : ∃ m, Ms[j]? = some m := ⟨Ms[j]'(HN.out ▸ hji), List.getElem?_eq_getElem _⟩
          have d0 : wq.cell? ⟨ab, ao + j * 13, none⟩ = some (.int .u8 m.k) := hA.held.cells hm 0 _ rfl
          have d1 : wq.cell? ⟨ab, ao + j * 13 + 1, none⟩ = some (.int .u8 m.t0) := hA.held.cells hm 1 _ rfl
          have d2 : wq.cell? ⟨ab, ao + j * 13 + 2, none⟩ = some (.string m.s0) := hA.held.cells hm 2 _ rfl
          have d3 : wq.cell? ⟨ab, ao + j * 13 + 3, none⟩ = some (.int .u8 m.t1) := hA.held.cells hm 3 _ rfl
          have d4 : wq.cell? ⟨ab, ao + j * 13 + 4, none⟩ = some (.string m.s1) := hA.held.cells hm 4 _ rfl
          have d5 : wq.cell? ⟨ab, ao + j * 13 + 5, none⟩ = some (.int .u8 m.t2) := hA.held.cells hm 5 _ rfl
          have d6 : wq.cell? ⟨ab, ao + j * 13 + 6, none⟩ = some (.string m.s2) := hA.held.cells hm 6 _ rfl
          have d7 : wq.cell? ⟨ab, ao + j * 13 + 7, none⟩ = some (.int .u8 m.t3) := hA.held.cells hm 7 _ rfl
          have d8 : wq.cell? ⟨ab, ao + j * 13 + 8, none⟩ = some (.string m.s3) := hA.held.cells hm 8 _ rfl
          have d9 : wq.cell? ⟨ab, ao + j * 13 + 9, none⟩ = some (.int .u8 m.ct) := hA.held.cells hm 9 _ rfl
          have d10 : wq.cell? ⟨ab, ao + j * 13 + 10, none⟩ = some (.bool m.cb) := hA.held.cells hm 10 _ rfl
          have d11 : wq.cell? ⟨ab, ao + j * 13 + 11, none⟩ = some (.int .u8 m.bt) := hA.held.cells hm 11 _ rfl
          have d12 : wq.cell? ⟨ab, ao + j * 13 + 12, none⟩ = some (.bool m.bb) := hA.held.cells hm 12 _ rfl
          have HA2 := hid hA
          have HE2 := hid hE
          have HM2 := hid hm
          clear hA hE hm HA HE
          go_wp2_with fail
          refine (fails_c m wq).mono ?_
          rintro e w4 ⟨rfl, hb4⟩
          rw [HGN.out j m HM2.out (HN.out ▸ hji)]
          have HA4 := hid (HA2.out.below hb4)
          have HE4 := hid (HE2.out.below hb4)
          clear hb4 d0 d1 d2 d3 d4 d5 d6 d7 d8 d9 d10 d11 d12
          go_wp2
          go_roundw
          case rel => exact ⟨j + 1, by omega, by go_num, rfl, HA4.out, HE4.out⟩
          case measure => simp [intOf]; omega

end Go.Proofs.YbulkegvaFmt
