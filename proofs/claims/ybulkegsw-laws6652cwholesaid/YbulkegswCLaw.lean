import Derived.Test.YbulkegswCWalk
namespace Go.Proofs.Ybulkegsw.C
open Go.RowKit

set_option maxHeartbeats 400000 in
theorem law_line (n x d : Int) (bn1 : -9223372036854775808 ≤ n) (bn2 : n < 9223372036854775808) (w : World) :
    Calls Yba.prog 5 #[.int .i64 n, .bool false, .int .i64 x, .int .i64 d] w fun e w' => e = .returned (.bool true) ∧ Grown w w' := by
  have hy : -9223372036854775808 ≤ wrap64 (x + d) ∧ wrap64 (x + d) < 9223372036854775808 := by unfold wrap64; omega
  obtain ⟨hy1, hy2⟩ := hy
  by_cases h1 : 0 ≤ n
  · by_cases h2 : 0 ≤ wrap64 (x + d)
    · have e := ltu_nn h1 h2 bn2 hy2
      by_cases h3 : wrap64 (x + d) < n
      · rw [decide_eq_true h3] at e
        go_enter Yba.func5, Yba.ntmps5
        go_wp2_with (go_at_call 19; refine (at_line n x d _).mono ?_; rintro e w' ⟨rfl, hg⟩)
        go_ret
        exact ⟨rfl, grown_trans ((Grown.refl _).alloc _ _) hg⟩
      · rw [decide_eq_false h3] at e
        have d3 : decide (wrap64 (x + d) < n) = false := decide_eq_false h3
        have d2 : decide (0 ≤ wrap64 (x + d)) = true := decide_eq_true h2
        go_enter Yba.func5, Yba.ntmps5
        go_wp2_with (go_at_call 19; refine (at_line n x d _).mono ?_; rintro e w' ⟨rfl, hg⟩)
        go_ret
        exact ⟨rfl, grown_trans ((Grown.refl _).alloc _ _) hg⟩
    · have e := ltu_nneg h1 (by omega) bn2 hy1
      go_enter Yba.func5, Yba.ntmps5
      go_wp2_with (go_at_call 19; refine (at_line n x d _).mono ?_; rintro e w' ⟨rfl, hg⟩)
      go_ret
      exact ⟨rfl, grown_trans ((Grown.refl _).alloc _ _) hg⟩
  · by_cases h2 : 0 ≤ wrap64 (x + d)
    · have e := ltu_negn (by omega : n < 0) h2 bn1 hy2
      go_enter Yba.func5, Yba.ntmps5
      go_wp2_with (go_at_call 19; refine (at_line n x d _).mono ?_; rintro e w' ⟨rfl, hg⟩)
      go_ret
      exact ⟨rfl, grown_trans ((Grown.refl _).alloc _ _) hg⟩
    · have e := ltu_negneg (by omega : n < 0) (by omega) bn1 hy1
      by_cases h3 : wrap64 (x + d) < n
      · rw [decide_eq_true h3] at e
        go_enter Yba.func5, Yba.ntmps5
        go_wp2_with (go_at_call 19; refine (at_line n x d _).mono ?_; rintro e w' ⟨rfl, hg⟩)
        go_ret
        exact ⟨rfl, grown_trans ((Grown.refl _).alloc _ _) hg⟩
      · rw [decide_eq_false h3] at e
        have d3 : decide (wrap64 (x + d) < n) = false := decide_eq_false h3
        have d2 : decide (0 ≤ wrap64 (x + d)) = false := decide_eq_false h2
        go_enter Yba.func5, Yba.ntmps5
        go_wp2_with (go_at_call 19; refine (at_line n x d _).mono ?_; rintro e w' ⟨rfl, hg⟩)
        go_ret
        exact ⟨rfl, grown_trans ((Grown.refl _).alloc _ _) hg⟩

theorem lo_pos {n : Int} (h : 1 ≤ n) (bn2 : n < 9223372036854775808) : lo n = n / 2 - n + 1 := by
  have e : wrap64 (n - 1) = n - 1 := by unfold wrap64; omega
  unfold lo
  rw [e, Int.tdiv_eq_ediv_of_nonneg (by omega)]
  unfold wrap64; omega
theorem hi_pos {n : Int} (h : 1 ≤ n) (bn2 : n < 9223372036854775808) : hi n = n / 2 := by
  unfold hi
  rw [Int.tdiv_eq_ediv_of_nonneg (by omega)]
  unfold wrap64; omega

set_option maxHeartbeats 400000 in
theorem law_out_pos (n x d : Int) (bn2 : n < 9223372036854775808) (h1 : 1 ≤ n) (h : d < lo n ∨ (¬ d < lo n ∧ hi n < d)) (w : World) :
    Calls Yba.prog 5 #[.int .i64 n, .bool true, .int .i64 x, .int .i64 d] w fun e w' => e = .returned (.bool true) ∧ Grown w w' := by
  have H : Hid (d < lo n ∨ (¬ d < lo n ∧ hi n < d)) := h
  rw [lo_pos h1 bn2, hi_pos h1 bn2] at h
  rcases h with h | ⟨h, h'⟩
  · go_enter Yba.func5, Yba.ntmps5
    go_wp2_with (go_at_call 19; refine (at_out n x d _ H.out).mono ?_; rintro e w' ⟨rfl, hg⟩)
    go_ret
    exact ⟨rfl, grown_trans ((Grown.refl _).alloc _ _) hg⟩
  · go_enter Yba.func5, Yba.ntmps5
    go_wp2_with (go_at_call 19; refine (at_out n x d _ H.out).mono ?_; rintro e w' ⟨rfl, hg⟩)
    go_ret
    exact ⟨rfl, grown_trans ((Grown.refl _).alloc _ _) hg⟩

set_option maxHeartbeats 400000 in
theorem law_out_neg (n x d : Int) (h1 : ¬ 1 ≤ n) (h : d < lo n ∨ (¬ d < lo n ∧ hi n < d)) (w : World) :
    Calls Yba.prog 5 #[.int .i64 n, .bool true, .int .i64 x, .int .i64 d] w fun e w' => e = .returned (.bool true) ∧ Grown w w' := by
  have H : Hid (d < lo n ∨ (¬ d < lo n ∧ hi n < d)) := h
  unfold lo hi at h
  rcases h with h | ⟨h, h'⟩
  · go_enter Yba.func5, Yba.ntmps5
    go_wp2_with (go_at_call 19; refine (at_out n x d _ H.out).mono ?_; rintro e w' ⟨rfl, hg⟩)
    go_ret
    exact ⟨rfl, grown_trans ((Grown.refl _).alloc _ _) hg⟩
  · go_enter Yba.func5, Yba.ntmps5
    go_wp2_with (go_at_call 19; refine (at_out n x d _ H.out).mono ?_; rintro e w' ⟨rfl, hg⟩)
    go_ret
    exact ⟨rfl, grown_trans ((Grown.refl _).alloc _ _) hg⟩

theorem wr_neg {n y : Int} (h : y < 0) : wr n y = wrap64 (y + n) := by unfold wr; rw [if_pos h]
theorem wr_past {n y : Int} (h : ¬ y < 0) (h' : n ≤ y) : wr n y = wrap64 (y - n) := by unfold wr; rw [if_neg h, if_pos h']
theorem wr_in {n y : Int} (h : ¬ y < 0) (h' : ¬ n ≤ y) : wr n y = y := by unfold wr; rw [if_neg h, if_neg h']

set_option maxHeartbeats 1000000 in
theorem law_in_pos (n x d : Int) (bn2 : n < 9223372036854775808) (h1 : 1 ≤ n) (h : ¬ d < lo n) (h' : ¬ hi n < d) (w : World) :
    Calls Yba.prog 5 #[.int .i64 n, .bool true, .int .i64 x, .int .i64 d] w fun e w' => e = .returned (.bool true) ∧ Grown w w' := by
  have H : Hid (¬ d < lo n) := h
  have H' : Hid (¬ hi n < d) := h'
  rw [lo_pos h1 bn2] at h
  rw [hi_pos h1 bn2] at h'
  by_cases c1 : wrap64 (x + d) < 0
  · have e := wr_neg (n := n) c1
    go_enter Yba.func5, Yba.ntmps5
    go_wp2_with (go_at_call 19; refine (at_in n x d _ H.out H'.out).mono ?_; rintro e w' ⟨rfl, hg⟩)
    go_ret
    exact ⟨rfl, grown_trans ((Grown.refl _).alloc _ _) hg⟩
  · by_cases c2 : n ≤ wrap64 (x + d)
    · have e := wr_past (n := n) c1 c2
      go_enter Yba.func5, Yba.ntmps5
      go_wp2_with (go_at_call 19; refine (at_in n x d _ H.out H'.out).mono ?_; rintro e w' ⟨rfl, hg⟩)
      go_ret
      exact ⟨rfl, grown_trans ((Grown.refl _).alloc _ _) hg⟩
    · have e := wr_in (n := n) c1 c2
      go_enter Yba.func5, Yba.ntmps5
      go_wp2_with (go_at_call 19; refine (at_in n x d _ H.out H'.out).mono ?_; rintro e w' ⟨rfl, hg⟩)
      go_ret
      exact ⟨rfl, grown_trans ((Grown.refl _).alloc _ _) hg⟩

set_option maxHeartbeats 1000000 in
theorem law_in_neg (n x d : Int) (h1 : ¬ 1 ≤ n) (h : ¬ d < lo n) (h' : ¬ hi n < d) (w : World) :
    Calls Yba.prog 5 #[.int .i64 n, .bool true, .int .i64 x, .int .i64 d] w fun e w' => e = .returned (.bool true) ∧ Grown w w' := by
  have H : Hid (¬ d < lo n) := h
  have H' : Hid (¬ hi n < d) := h'
  unfold lo at h
  unfold hi at h'
  by_cases c1 : wrap64 (x + d) < 0
  · have e := wr_neg (n := n) c1
    go_enter Yba.func5, Yba.ntmps5
    go_wp2_with (go_at_call 19; refine (at_in n x d _ H.out H'.out).mono ?_; rintro e w' ⟨rfl, hg⟩)
    go_ret
    exact ⟨rfl, grown_trans ((Grown.refl _).alloc _ _) hg⟩
  · have c2 : n ≤ wrap64 (x + d) := by omega
    have e := wr_past (n := n) c1 c2
    go_enter Yba.func5, Yba.ntmps5
    go_wp2_with (go_at_call 19; refine (at_in n x d _ H.out H'.out).mono ?_; rintro e w' ⟨rfl, hg⟩)
    go_ret
    exact ⟨rfl, grown_trans ((Grown.refl _).alloc _ _) hg⟩

theorem law (n : Int) (r : Bool) (x d : Int) (bn1 : -9223372036854775808 ≤ n) (bn2 : n < 9223372036854775808) (w : World) :
    Calls Yba.prog 5 #[.int .i64 n, .bool r, .int .i64 x, .int .i64 d] w fun e w' => e = .returned (.bool true) ∧ Grown w w' := by
  cases r
  · exact law_line n x d bn1 bn2 w
  · by_cases h1 : 1 ≤ n
    · by_cases h : d < lo n
      · exact law_out_pos n x d bn2 h1 (Or.inl h) w
      · by_cases h' : hi n < d
        · exact law_out_pos n x d bn2 h1 (Or.inr ⟨h, h'⟩) w
        · exact law_in_pos n x d bn2 h1 h h' w
    · by_cases h : d < lo n
      · exact law_out_neg n x d h1 (Or.inl h) w
      · by_cases h' : hi n < d
        · exact law_out_neg n x d h1 (Or.inr ⟨h, h'⟩) w
        · exact law_in_neg n x d h1 h h' w
end Go.Proofs.Ybulkegsw.C
