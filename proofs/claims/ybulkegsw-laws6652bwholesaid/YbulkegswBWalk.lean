import Derived.Test.YbulkegswProg
import Derived.WalkKit
import Derived.WalkSpells
import Derived.RowKit3
import Derived.Deep.QuietTactic
import Derived.BigQuiet
import Derived.Outline
import Derived.LoopN
import Derived.Lib.Mul64
import Derived.Laws.Bits64b
import Derived.Laws.Externs
namespace Go.Proofs.Ybulkegsw.B
open Go.RowKit
set_option linter.unusedVariables false

theorem setCell_drewN (w : World) (n : Nat) (a : Addr) (v : Value) : (w.drewN n).setCell a v = (w.setCell a v).drewN n := rfl
theorem alloc_drewN (w : World) (n : Nat) (o : Obj) : (w.drewN n).alloc o = (w.alloc o).drewN n := rfl
attribute [local go_sem] setCell_drewN alloc_drewN

theorem maskN (a : Nat) (ha : a < 18446744073709551616) : bits .and .u64 (a : Int) 4294967295 = ((a % 4294967296 : Nat) : Int) := by
  have h := bits_and_u64_nat a 4294967295 ha (by omega)
  have e : a &&& 4294967295 = a % 4294967296 := Nat.and_two_pow_sub_one_eq_mod a 32
  rw [e] at h
  exact h
theorem divN (a : Nat) : (a : Int) / 4294967296 = ((a / 4294967296 : Nat) : Int) := by omega
theorem mulN (a b : Nat) : (a : Int) * (b : Int) = ((a * b : Nat) : Int) := (Int.natCast_mul a b).symm
theorem addN (a b : Nat) : (a : Int) + (b : Int) = ((a + b : Nat) : Int) := (Int.natCast_add a b).symm
theorem wrapN (a : Nat) (ha : a < 18446744073709551616) : IntKind.u64.wrap (a : Int) = (a : Int) := by rw [IntKind.wrap_u64]; omega
theorem wrapM (a : Nat) : IntKind.u64.wrap (a : Int) = ((a % 18446744073709551616 : Nat) : Int) := by rw [IntKind.wrap_u64]; omega

set_option maxHeartbeats 1000000 in
theorem mul64 (x y : Nat) (hx : x < 18446744073709551616) (hy : y < 18446744073709551616) (w : World) :
    Calls Yba.prog 26 #[.int .u64 x, .int .u64 y] w fun e w' => e = .returned (.tuple #[.int .u64 ((x * y / 18446744073709551616 : Nat) : Int), .int .u64 ((x * y % 18446744073709551616 : Nat) : Int)]) ∧ w' = w := by
  obtain ⟨bd, bt, bw, hhi⟩ := Lib.mul64_hi x y hx hy
  have ba := Lib.half_mul_le (a := x / 4294967296) (b := y / 4294967296) (by omega) (by omega)
  have bb := Lib.half_mul_le (a := x / 4294967296) (b := y % 4294967296) (by omega) (by omega)
  have bc := Lib.half_mul_le (a := x % 4294967296) (b := y / 4294967296) (by omega) (by omega)
  have ba' : x / 4294967296 * (y / 4294967296) < 18446744073709551616 := by omega
  have bb' : x / 4294967296 * (y % 4294967296) < 18446744073709551616 := by omega
  have bc' : x % 4294967296 * (y / 4294967296) < 18446744073709551616 := by omega
  have bh1 : x / 4294967296 * (y / 4294967296) + (x / 4294967296 * (y % 4294967296) + x % 4294967296 * (y % 4294967296) / 4294967296) / 4294967296 < 18446744073709551616 := by omega
  have bh : x / 4294967296 * (y / 4294967296) + (x / 4294967296 * (y % 4294967296) + x % 4294967296 * (y % 4294967296) / 4294967296) / 4294967296 + ((x / 4294967296 * (y % 4294967296) + x % 4294967296 * (y % 4294967296) / 4294967296) % 4294967296 + x % 4294967296 * (y / 4294967296)) / 4294967296 < 18446744073709551616 := by omega
  go_enter Yba.func26, Yba.ntmps26
  go_wp2
  simp only [maskN x hx, maskN y hy, divN, mulN, addN, wrapN _ bd, wrapN _ bb', wrapN _ bt, maskN _ bt, wrapN _ bc', wrapN _ bw, wrapN _ ba', wrapN _ bh1, wrapN _ bh, wrapM (x * y)]
  rw [hhi]
  go_ret2
  exact ⟨rfl, rfl⟩

theorem add64_0 (x y : Int) (hx : 0 ≤ x) (hy : 0 ≤ y) (w : World) : (callFunc 27 #[.int .u64 x, .int .u64 y, .int .u64 0]).run Yba.prog w =
    .ok (.value (.tuple #[.int .u64 ((x + y) % 18446744073709551616), .int .u64 ((x + y) / 18446744073709551616)])) w := by
  rw [run_callFunc_extern Yba.func27 (by kernel_rfl) (by kernel_rfl) (by kernel_rfl) (e := add64Entry) (by kernel_rfl)]
  rw [run_add64 (P := Yba.prog) x y 0 hx hy (by omega) (by omega) w]
  simp only [Result.andThen, Int.add_zero]

/-- The three words of the product. -/
def p2 (h l b : Nat) : Nat := (h * 18446744073709551616 + l) * b / 340282366920938463463374607431768211456
def p1 (h l b : Nat) : Nat := (h * 18446744073709551616 + l) * b / 18446744073709551616 % 18446744073709551616
def p0 (h l b : Nat) : Nat := (h * 18446744073709551616 + l) * b % 18446744073709551616

theorem times_words (h l b : Nat) (hh : h < 18446744073709551616) (hl : l < 18446744073709551616) (hb : b < 18446744073709551616) :
    IntKind.u64.wrap (((h * b / 18446744073709551616 : Nat) : Int) + (((h * b % 18446744073709551616 : Nat) : Int) + ((l * b / 18446744073709551616 : Nat) : Int)) / 18446744073709551616) = (p2 h l b : Int) ∧
    (((h * b % 18446744073709551616 : Nat) : Int) + ((l * b / 18446744073709551616 : Nat) : Int)) % 18446744073709551616 = (p1 h l b : Int) ∧
    ((l * b % 18446744073709551616 : Nat) : Int) = (p0 h l b : Int) := by
  have e : (h * 18446744073709551616 + l) * b = h * b * 18446744073709551616 + l * b := by
    rw [Nat.add_mul, Nat.mul_right_comm]
  have b1 : h * b ≤ 18446744073709551615 * 18446744073709551615 := Nat.mul_le_mul (by omega) (by omega)
  have b2 : l * b ≤ 18446744073709551615 * 18446744073709551615 := Nat.mul_le_mul (by omega) (by omega)
  unfold p2 p1 p0
  rw [e, IntKind.wrap_u64]
  generalize h * b = x at *
  generalize l * b = y at *
  refine ⟨?_, ?_, ?_⟩ <;> omega

theorem grown_drewN {W w' : World} (h : Grown W w') (n : Nat) : Grown W (w'.drewN n) := h
theorem hid {p : Prop} (h : p) : Hid p := h

set_option maxHeartbeats 400000 in
theorem times (h l b : Nat) (hh : h < 18446744073709551616) (hl : l < 18446744073709551616) (hb : b < 18446744073709551616) (w : World) :
    Calls Yba.prog 17 #[.agg #[.int .u64 h, .int .u64 l], .int .u64 b] w fun e w' =>
      e = .returned (.tuple #[.int .u64 (p2 h l b), .int .u64 (p1 h l b), .int .u64 (p0 h l b)]) ∧ ∃ c, w' = w.alloc (.cells c 63) := by
  have E := hid (times_words h l b hh hl hb)
  have M1 := fun wx => mul64 h b hh hb wx
  have M0 := fun wx => mul64 l b hl hb wx
  generalize h * b / 18446744073709551616 = x1 at E M1
  generalize h * b % 18446744073709551616 = x0 at E M1
  generalize l * b / 18446744073709551616 = y1 at E M0
  generalize l * b % 18446744073709551616 = y0 at E M0
  have A := fun wx => add64_0 (x0 : Int) (y1 : Int) (by omega) (by omega) wx
  have HM1 := hid M1
  have HM0 := hid M0
  clear M1 M0
  go_enter Yba.func17, Yba.ntmps17
  go_wp2_with fail
  refine (HM0.out _).mono ?_
  rintro e w' ⟨rfl, rfl⟩
  go_wp2_with fail
  refine (HM1.out _).mono ?_
  rintro e w' ⟨rfl, rfl⟩
  go_wp2_with fail
  obtain ⟨e2, e1, e0⟩ := E.out
  rw [e2, e1, e0]
  go_ret3
  exact ⟨rfl, _, rfl⟩

theorem maskI (t : Int) (h0 : 0 ≤ t) (h1 : t ≤ 18446744073709551615) : bits .and .u64 t 4294967295 = t % 4294967296 := by
  obtain ⟨n, rfl⟩ := Int.eq_ofNat_of_zero_le h0
  rw [maskN n (by omega)]; omega
theorem orI (x y : Int) (h0 : 0 ≤ x) (h1 : x ≤ 4294967295) (g0 : 0 ≤ y) (g1 : y ≤ 4294967295) : bits .or .u64 (x * 4294967296) y = x * 4294967296 + y := by
  obtain ⟨n, rfl⟩ := Int.eq_ofNat_of_zero_le h0
  obtain ⟨m, rfl⟩ := Int.eq_ofNat_of_zero_le g0
  have h := bits_or_u64_nat (4294967296 * n) m (by omega) (by omega)
  have e : 4294967296 * n ||| m = 4294967296 * n + m := (Nat.two_pow_add_eq_or_of_lt (i := 32) (b := m) (by omega) n).symm
  rw [e] at h
  have e2 : (n : Int) * 4294967296 = ((4294967296 * n : Nat) : Int) := by omega
  rw [e2, h]; omega
theorem prodI {a b : Int} (a0 : 0 ≤ a) (a1 : a ≤ 4294967295) (b0 : 0 ≤ b) (b1 : b ≤ 4294967295) : 0 ≤ a * b ∧ a * b ≤ 18446744065119617025 :=
  ⟨Int.mul_nonneg a0 b0, Int.mul_le_mul a1 b1 b0 (by omega)⟩

theorem rest_bd {t1 t3 t5 t7 t8 : Int} (h1 : 0 ≤ t1 ∧ t1 ≤ 18446744073709551615) (h3 : 0 ≤ t3 ∧ t3 ≤ 18446744073709551615) (h5 : 0 ≤ t5 ∧ t5 ≤ 18446744073709551615) (h7 : 0 ≤ t7 ∧ t7 ≤ 18446744073709551615) (h8 : 0 ≤ t8 ∧ t8 ≤ 18446744073709551615) :
    (0 ≤ t1 % 4294967296 ∧ t1 % 4294967296 ≤ 4294967295) ∧ (0 ≤ t3 % 4294967296 ∧ t3 % 4294967296 ≤ 4294967295) ∧ (0 ≤ t5 % 4294967296 ∧ t5 % 4294967296 ≤ 4294967295) ∧ (0 ≤ t7 % 4294967296 ∧ t7 % 4294967296 ≤ 4294967295) ∧ (0 ≤ t8 % 4294967296 ∧ t8 % 4294967296 ≤ 4294967295) ∧ (0 ≤ t8 / 4294967296 ∧ t8 / 4294967296 ≤ 4294967295) := by
  refine ⟨?_, ?_, ?_, ?_, ?_, ?_⟩ <;> omega
theorem sum_law {p00 p01 p10 p11 p20 p21 p30 p31 t1 t2 t3 t4 t5 t6 t7 t8 : Int} (h1 : p00 = t1) (h2 : p01 + t1 / 4294967296 = t2) (h3 : p10 + t2 % 4294967296 = t3) (h4 : p11 + t2 / 4294967296 + t3 / 4294967296 = t4)
    (h5 : p20 + t4 % 4294967296 = t5) (h6 : p21 + t4 / 4294967296 + t5 / 4294967296 = t6) (h7 : p30 + t6 % 4294967296 = t7) (h8 : p31 + t6 / 4294967296 + t7 / 4294967296 = t8) :
    t1 % 4294967296 + 4294967296 * (t3 % 4294967296 + 4294967296 * (t5 % 4294967296 + 4294967296 * (t7 % 4294967296 + 4294967296 * (t8 % 4294967296 + 4294967296 * (t8 / 4294967296))))) =
      p00 + 4294967296 * (p01 + p10 + 4294967296 * (p11 + p20 + 4294967296 * (p21 + p30 + 4294967296 * p31))) := by
  omega

set_option maxHeartbeats 4000000 in
theorem model0 (h l b : Int) (a0 a1 a2 a3 b0 b1 : Int) (w : World)
    (e1 : Hid (bits .and .u64 l 4294967295 = a0 ∧ l / 4294967296 = a1 ∧ bits .and .u64 h 4294967295 = a2 ∧ h / 4294967296 = a3 ∧ bits .and .u64 b 4294967295 = b0 ∧ b / 4294967296 = b1))
    (x0 : 0 ≤ a0 ∧ a0 ≤ 4294967295) (x1 : 0 ≤ a1 ∧ a1 ≤ 4294967295) (x2 : 0 ≤ a2 ∧ a2 ≤ 4294967295) (x3 : 0 ≤ a3 ∧ a3 ≤ 4294967295) (y0 : 0 ≤ b0 ∧ b0 ≤ 4294967295) (y1 : 0 ≤ b1 ∧ b1 ≤ 4294967295) :
    Calls Yba.prog 18 #[.int .u64 h, .int .u64 l, .int .u64 b] w fun e w' =>
      ∃ r0 r1 r2 r3 r4 r5 : Int, e = .returned (.tuple #[.int .u64 (r5 * 4294967296 + r4), .int .u64 (r3 * 4294967296 + r2), .int .u64 (r1 * 4294967296 + r0)]) ∧ 
      (0 ≤ r0 ∧ r0 ≤ 4294967295) ∧ (0 ≤ r1 ∧ r1 ≤ 4294967295) ∧ (0 ≤ r2 ∧ r2 ≤ 4294967295) ∧ (0 ≤ r3 ∧ r3 ≤ 4294967295) ∧ (0 ≤ r4 ∧ r4 ≤ 4294967295) ∧ (0 ≤ r5 ∧ r5 ≤ 4294967295) ∧
      r0 + 4294967296 * (r1 + 4294967296 * (r2 + 4294967296 * (r3 + 4294967296 * (r4 + 4294967296 * r5)))) =
        a0 * b0 + 4294967296 * (a0 * b1 + a1 * b0 + 4294967296 * (a1 * b1 + a2 * b0 + 4294967296 * (a2 * b1 + a3 * b0 + 4294967296 * (a3 * b1)))) ∧
      ∃ c1 c2 c3 n, w' = (((w.alloc (.cells c1 81)).alloc (.cells c2 82)).alloc (.cells c3 83)).drewN n := by
  have q00 := hid (prodI x0.1 x0.2 y0.1 y0.2)
  have q01 := hid (prodI x0.1 x0.2 y1.1 y1.2)
  have q10 := hid (prodI x1.1 x1.2 y0.1 y0.2)
  have q11 := hid (prodI x1.1 x1.2 y1.1 y1.2)
  have q20 := hid (prodI x2.1 x2.2 y0.1 y0.2)
  have q21 := hid (prodI x2.1 x2.2 y1.1 y1.2)
  have q30 := hid (prodI x3.1 x3.2 y0.1 y0.2)
  have q31 := hid (prodI x3.1 x3.2 y1.1 y1.2)
  clear x0 x1 x2 x3 y0 y1
  obtain ⟨m0, m1, m2, m3, m4, m5⟩ := e1.out
  go_enter Yba.func18, Yba.ntmps18
  go_wp2
  clear m0 m1 m2 m3 m4 m5
  refine wp_loop_rounds 5 ?_
  rw [rounds_succ]
  go_wp2
  refine wp_loop_rounds 3 ?_
  rw [rounds_succ]
  have z1 := q00.out
  go_wp2
  go_quiet (fail)
  have b1t : 0 ≤ a0 * b0 ∧ a0 * b0 ≤ 18446744073709551615 := by omega
  clear z1
  generalize h1t : a0 * b0 = t1 at b1t ⊢
  have H1 := hid h1t
  clear h1t
  have k1 := maskI t1 b1t.1 b1t.2
  have B1 := hid b1t
  go_wp2
  clear k1
  rw [rounds_succ]
  have z2 := q01.out
  go_wp2
  go_quiet (fail)
  have b2t : 0 ≤ a0 * b1 + t1 / 4294967296 ∧ a0 * b1 + t1 / 4294967296 ≤ 18446744073709551615 := by omega
  clear z2
  generalize h2t : a0 * b1 + t1 / 4294967296 = t2 at b2t ⊢
  have H2 := hid h2t
  clear h2t
  have k2 := maskI t2 b2t.1 b2t.2
  have B2 := hid b2t
  go_wp2
  clear k2
  rw [rounds_succ]
  go_wp2
  rw [rounds_succ]
  go_wp2
  refine wp_loop_rounds 3 ?_
  rw [rounds_succ]
  have z3 := q10.out
  go_wp2
  go_quiet (fail)
  have b3t : 0 ≤ a1 * b0 + t2 % 4294967296 ∧ a1 * b0 + t2 % 4294967296 ≤ 18446744073709551615 := by omega
  clear z3
  generalize h3t : a1 * b0 + t2 % 4294967296 = t3 at b3t ⊢
  have H3 := hid h3t
  clear h3t
  have k3 := maskI t3 b3t.1 b3t.2
  have B3 := hid b3t
  go_wp2
  clear k3
  clear b1t
  rw [rounds_succ]
  have z4 := q11.out
  go_wp2
  go_quiet (fail)
  have b4t : 0 ≤ a1 * b1 + t2 / 4294967296 + t3 / 4294967296 ∧ a1 * b1 + t2 / 4294967296 + t3 / 4294967296 ≤ 18446744073709551615 := by omega
  clear z4
  generalize h4t : a1 * b1 + t2 / 4294967296 + t3 / 4294967296 = t4 at b4t ⊢
  have H4 := hid h4t
  clear h4t
  have k4 := maskI t4 b4t.1 b4t.2
  have B4 := hid b4t
  go_wp2
  clear k4
  clear b2t
  rw [rounds_succ]
  go_wp2
  rw [rounds_succ]
  go_wp2
  refine wp_loop_rounds 3 ?_
  rw [rounds_succ]
  have z5 := q20.out
  go_wp2
  go_quiet (fail)
  have b5t : 0 ≤ a2 * b0 + t4 % 4294967296 ∧ a2 * b0 + t4 % 4294967296 ≤ 18446744073709551615 := by omega
  clear z5
  generalize h5t : a2 * b0 + t4 % 4294967296 = t5 at b5t ⊢
  have H5 := hid h5t
  clear h5t
  have k5 := maskI t5 b5t.1 b5t.2
  have B5 := hid b5t
  go_wp2
  clear k5
  clear b3t
  rw [rounds_succ]
  have z6 := q21.out
  go_wp2
  go_quiet (fail)
  have b6t : 0 ≤ a2 * b1 + t4 / 4294967296 + t5 / 4294967296 ∧ a2 * b1 + t4 / 4294967296 + t5 / 4294967296 ≤ 18446744073709551615 := by omega
  clear z6
  generalize h6t : a2 * b1 + t4 / 4294967296 + t5 / 4294967296 = t6 at b6t ⊢
  have H6 := hid h6t
  clear h6t
  have k6 := maskI t6 b6t.1 b6t.2
  have B6 := hid b6t
  go_wp2
  clear k6
  clear b4t
  rw [rounds_succ]
  go_wp2
  rw [rounds_succ]
  go_wp2
  refine wp_loop_rounds 3 ?_
  rw [rounds_succ]
  have z7 := q30.out
  go_wp2
  go_quiet (fail)
  have b7t : 0 ≤ a3 * b0 + t6 % 4294967296 ∧ a3 * b0 + t6 % 4294967296 ≤ 18446744073709551615 := by omega
  clear z7
  generalize h7t : a3 * b0 + t6 % 4294967296 = t7 at b7t ⊢
  have H7 := hid h7t
  clear h7t
  have k7 := maskI t7 b7t.1 b7t.2
  have B7 := hid b7t
  go_wp2
  clear k7
  clear b5t
  rw [rounds_succ]
  have z8 := q31.out
  go_wp2
  go_quiet (fail)
  have b8t : 0 ≤ a3 * b1 + t6 / 4294967296 + t7 / 4294967296 ∧ a3 * b1 + t6 / 4294967296 + t7 / 4294967296 ≤ 18446744073709551615 := by omega
  clear z8
  generalize h8t : a3 * b1 + t6 / 4294967296 + t7 / 4294967296 = t8 at b8t ⊢
  have H8 := hid h8t
  clear h8t
  have k8 := maskI t8 b8t.1 b8t.2
  have B8 := hid b8t
  go_wp2
  clear k8
  clear b6t
  rw [rounds_succ]
  go_wp2
  rw [rounds_succ]
  go_wp2
  go_quiet (fail)
  obtain ⟨r0, r1, r2, r3, r4, r5⟩ := rest_bd B1.out B3.out B5.out B7.out B8.out
  rw [orI _ _ r5.1 r5.2 r4.1 r4.2, orI _ _ r3.1 r3.2 r2.1 r2.2, orI _ _ r1.1 r1.2 r0.1 r0.2]
  go_wp2
  go_ret3
  exact ⟨_, _, _, _, _, _, rfl, r0, r1, r2, r3, r4, r5, sum_law H1.out H2.out H3.out H4.out H5.out H6.out H7.out H8.out, _, _, _, _, World.drewN_drewN ..⟩

/-- From the six limbs to the three words. -/
theorem words_law (h l b : Nat) (r0 r1 r2 r3 r4 r5 : Int)
    (k0 : 0 ≤ r0 ∧ r0 ≤ 4294967295) (k1 : 0 ≤ r1 ∧ r1 ≤ 4294967295) (k2 : 0 ≤ r2 ∧ r2 ≤ 4294967295) (k3 : 0 ≤ r3 ∧ r3 ≤ 4294967295) (k4 : 0 ≤ r4 ∧ r4 ≤ 4294967295) (k5 : 0 ≤ r5 ∧ r5 ≤ 4294967295)
    (e : r0 + 4294967296 * (r1 + 4294967296 * (r2 + 4294967296 * (r3 + 4294967296 * (r4 + 4294967296 * r5)))) = (((h * 18446744073709551616 + l) * b : Nat) : Int)) :
    r5 * 4294967296 + r4 = (p2 h l b : Int) ∧ r3 * 4294967296 + r2 = (p1 h l b : Int) ∧ r1 * 4294967296 + r0 = (p0 h l b : Int) := by
  unfold p2 p1 p0
  generalize (h * 18446744073709551616 + l) * b = N at *
  refine ⟨?_, ?_, ?_⟩ <;> omega

theorem school (a0 a1 a2 a3 b0 b1 : Int) :
    a0 * b0 + 4294967296 * (a0 * b1 + a1 * b0 + 4294967296 * (a1 * b1 + a2 * b0 + 4294967296 * (a2 * b1 + a3 * b0 + 4294967296 * (a3 * b1)))) =
      ((a2 + 4294967296 * a3) * 18446744073709551616 + (a0 + 4294967296 * a1)) * (b0 + 4294967296 * b1) := by
  have e : ∀ x y : Int, x * (4294967296 * y) = 4294967296 * (x * y) := fun x y => Int.mul_left_comm x 4294967296 y
  have f : ∀ x y : Int, (4294967296 * x) * y = 4294967296 * (x * y) := fun x y => Int.mul_assoc 4294967296 x y
  have g : ∀ x y : Int, (x * 18446744073709551616) * y = 18446744073709551616 * (x * y) := fun x y => by rw [Int.mul_comm x, Int.mul_assoc]
  simp only [Int.add_mul, Int.mul_add, e, f, g]
  omega

theorem cast_law (h l b : Nat) : (((h * 18446744073709551616 + l) * b : Nat) : Int) = ((h : Int) * 18446744073709551616 + l) * b := by
  rw [Int.natCast_mul, show ((h * 18446744073709551616 + l : Nat) : Int) = (h : Int) * 18446744073709551616 + l from by omega]

theorem model (h l b : Nat) (hh : h < 18446744073709551616) (hl : l < 18446744073709551616) (hb : b < 18446744073709551616) (w : World) :
    Calls Yba.prog 18 #[.int .u64 h, .int .u64 l, .int .u64 b] w fun e w' =>
      e = .returned (.tuple #[.int .u64 (p2 h l b), .int .u64 (p1 h l b), .int .u64 (p0 h l b)]) ∧ ∃ c1 c2 c3 n, w' = (((w.alloc (.cells c1 81)).alloc (.cells c2 82)).alloc (.cells c3 83)).drewN n := by
  refine (model0 h l b ((l : Int) % 4294967296) ((l : Int) / 4294967296) ((h : Int) % 4294967296) ((h : Int) / 4294967296) ((b : Int) % 4294967296) ((b : Int) / 4294967296) w
    ⟨maskI l (by omega) (by omega), rfl, maskI h (by omega) (by omega), rfl, maskI b (by omega) (by omega), rfl⟩ (by omega) (by omega) (by omega) (by omega) (by omega) (by omega)).mono ?_
  rintro e w' ⟨r0, r1, r2, r3, r4, r5, rfl, k0, k1, k2, k3, k4, k5, es, c1, c2, c3, n, rfl⟩
  rw [school] at es
  have f0 : (l : Int) % 4294967296 + 4294967296 * ((l : Int) / 4294967296) = l := by omega
  have f1 : (h : Int) % 4294967296 + 4294967296 * ((h : Int) / 4294967296) = h := by omega
  have f2 : (b : Int) % 4294967296 + 4294967296 * ((b : Int) / 4294967296) = b := by omega
  rw [f0, f1, f2] at es
  obtain ⟨g2, g1, g0⟩ := words_law h l b r0 r1 r2 r3 r4 r5 k0 k1 k2 k3 k4 k5 (es.trans (cast_law h l b).symm)
  rw [g2, g1, g0]
  exact ⟨rfl, c1, c2, c3, n, rfl⟩

set_option maxHeartbeats 1000000 in
theorem law (h l b : Nat) (hh : h < 18446744073709551616) (hl : l < 18446744073709551616) (hb : b < 18446744073709551616) (w : World) :
    Calls Yba.prog 4 #[.int .u64 h, .int .u64 l, .int .u64 b] w fun e w' => e = .returned (.bool true) ∧ Grown w w' := by
  have HT := hid (times h l b hh hl hb)
  have HM := hid (model h l b hh hl hb)
  generalize p2 h l b = q2 at HT HM
  generalize p1 h l b = q1 at HT HM
  generalize p0 h l b = q0 at HT HM
  go_enter Yba.func4, Yba.ntmps4
  go_wp2_with fail
  refine (HT.out _).mono ?_
  rintro e w' ⟨rfl, c, rfl⟩
  go_wp2_with fail
  refine (HM.out _).mono ?_
  rintro e w' ⟨rfl, c1, c2, c3, n, rfl⟩
  go_wp2_with fail
  go_ret
  exact ⟨rfl, grown_drewN (((((((Grown.refl _).alloc _ _).alloc _ _).alloc _ _).alloc _ _).alloc _ _)) _⟩

end Go.Proofs.Ybulkegsw.B
