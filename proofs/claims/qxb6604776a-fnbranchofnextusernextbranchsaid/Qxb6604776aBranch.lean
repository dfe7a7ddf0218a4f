/-
  The walk of bank.BranchOf (function 6): the branch of a user, and of the three laws over it.
-/
import Derived.Test.Qxb6604776aRows
import Derived.WalkKit
import Derived.ProofKit
import Derived.Deep.DeepCutAuto
namespace Go.Proofs.Qxb6604776a
set_option linter.unusedVariables false
open Go.ChangeShapes Go.WideShapes Go.ChangeAt Go.RowKit

theorem wf_bounds {a : Int} (h : (Lit.int .i64 a).wf = true) : -9223372036854775808 ≤ a ∧ a ≤ 9223372036854775807 := by
  simp [Lit.wf, IntKind.min, IntKind.max, IntKind.bits, IntKind.signed] at h
  exact h

theorem branch_low (a : Int) (h : decide (a ≤ 18) = true) (w : World) :
    Calls Try.prog 6 #[.int .i64 a] w fun e w' => e = .returned (.int .i64 a) ∧ w' = w := by
  go_enter Try.func6, Try.ntmps6
  go_wp2
  go_ret
  exact ⟨rfl, rfl⟩

theorem rem_plus (a q r : Int) (hq : 0 ≤ q) (ha : a = 18 * q + (r - 1)) (h1 : 1 ≤ r) (h18 : r ≤ 18) : wrap64 (a.tmod 18 + 1) = r := by
  have h0 : 0 ≤ a := by omega
  rw [Int.tmod_eq_emod_of_nonneg h0]
  unfold wrap64
  omega

theorem branch_high (a q r : Int) (h : decide (a ≤ 18) = false) (hq : 0 ≤ q) (ha : a = 18 * q + (r - 1)) (h1 : 1 ≤ r) (h18 : r ≤ 18) (w : World) :
    Calls Try.prog 6 #[.int .i64 a] w fun e w' => e = .returned (.int .i64 r) ∧ w' = w := by
  have he := rem_plus a q r hq ha h1 h18
  clear hq ha h1 h18
  go_enter Try.func6, Try.ntmps6
  go_wp2
  go_ret
  exact ⟨by simp [he], rfl⟩


/-- Past the heads: the quotient and the branch. -/
theorem part {a : Int} (h : 18 < a) : ∃ q r : Int, 0 ≤ q ∧ a = 18 * q + (r - 1) ∧ 1 ≤ r ∧ r ≤ 18 :=
  ⟨a / 18, a % 18 + 1, by omega, by omega, by omega, by omega⟩

theorem spec_true (a0 : Int) (w0 : (Lit.int .i64 a0).wf = true) (w : World) :
    Calls Try.prog 3 #[.int .i64 a0] w fun e w' => e = .returned (.bool true) ∧ w' = w := by
  have hw := wf_bounds w0
  clear w0
  by_cases h : a0 ≤ 18
  · have hd : decide (a0 ≤ 18) = true := decide_eq_true h
    clear h hw
    go_enter Try.func3, Try.ntmps3
    go_wp2_with (go_at_call 6; refine (branch_low a0 hd w).mono ?_; rintro e w' ⟨rfl, rfl⟩)
    go_ret
    exact ⟨by simp, rfl⟩
  · have hd : decide (a0 ≤ 18) = false := decide_eq_false h
    obtain ⟨q, r, hq, ha, h1, h18⟩ := part (show 18 < a0 by omega)
    have d1 : decide (r < 1) = false := decide_eq_false (by omega)
    have d2 : decide (18 < r) = false := decide_eq_false (by omega)
    have e2 : (wrap64 (a0 - wrap64 (r - 1))).tmod 18 = 0 := by
      have e1 : wrap64 (r - 1) = r - 1 := by unfold wrap64; omega
      have e3 : wrap64 (a0 - (r - 1)) = 18 * q := by unfold wrap64; omega
      rw [e1, e3, Int.mul_tmod_right]
    have hb := branch_high a0 q r hd hq ha h1 h18 w
    clear h hw ha h1 h18 hq
    go_enter Try.func3, Try.ntmps3
    go_wp2_with (go_at_call 6; refine hb.mono ?_; rintro e w' ⟨rfl, rfl⟩)
    go_ret
    exact ⟨by simp, rfl⟩

theorem next_true (a0 : Int) (w0 : (Lit.int .i64 a0).wf = true) (w : World) :
    Calls Try.prog 4 #[.int .i64 a0] w fun e w' => e = .returned (.bool true) ∧ w' = w := by
  have hw := wf_bounds w0
  clear w0
  by_cases h : a0 ≤ 18
  · have hd : decide (a0 ≤ 18) = true := decide_eq_true h
    clear h hw
    go_enter Try.func4, Try.ntmps4
    go_wp2
    go_ret
    exact ⟨by simp, rfl⟩
  · have hd : decide (a0 ≤ 18) = false := decide_eq_false h
    by_cases hm : a0 = 9223372036854775807
    · have dm : (a0 == 9223372036854775807) = true := by simp [hm]
      clear h hw hm
      go_enter Try.func4, Try.ntmps4
      go_wp2
      go_ret
      exact ⟨by simp, rfl⟩
    · have dm : (a0 == 9223372036854775807) = false := by simp [hm]
      obtain ⟨q, r, hq, ha, h1, h18⟩ := part (show 18 < a0 by omega)
      have hd2 : decide (a0 + 1 ≤ 18) = false := decide_eq_false (by omega)
      have ew : wrap64 (a0 + 1) = a0 + 1 := by unfold wrap64; omega
      have hb := branch_high a0 q r hd hq ha h1 h18 w
      by_cases hr : r = 18
      · subst hr
        have hb2 := branch_high (a0 + 1) (q + 1) 1 hd2 (by omega) (by omega) (by omega) (by omega) w
        clear h hw hm ha h1 h18 hq
        go_enter Try.func4, Try.ntmps4
        go_upto_region 4 with (go_at_call 6; refine hb.mono ?_; rintro e w' ⟨rfl, rfl⟩)
        go_wp2_with (go_at_call 6; refine hb2.mono ?_; rintro e w' ⟨rfl, rfl⟩)
        go_ret
        exact ⟨by simp, rfl⟩
      · have dr : (r == 18) = false := by simp [hr]
        have hb2 := branch_high (a0 + 1) q (r + 1) hd2 (by omega) (by omega) (by omega) (by omega) w
        have er : wrap64 (r + 1) = r + 1 := by unfold wrap64; omega
        clear h hw hm ha h1 h18 hq hr
        go_enter Try.func4, Try.ntmps4
        go_upto_region 4 with (go_at_call 6; refine hb.mono ?_; rintro e w' ⟨rfl, rfl⟩)
        go_wp2_with (go_at_call 6; refine hb2.mono ?_; rintro e w' ⟨rfl, rfl⟩)
        go_ret
        exact ⟨by simp [er], rfl⟩

theorem range_true (a0 : Int) (w0 : (Lit.int .i64 a0).wf = true) (w : World) :
    Calls Try.prog 5 #[.int .i64 a0] w fun e w' => e = .returned (.bool true) ∧ w' = w := by
  clear w0
  by_cases h0 : a0 < 1
  · have hd : decide (a0 < 1) = true := decide_eq_true h0
    clear h0
    go_enter Try.func5, Try.ntmps5
    go_wp2
    go_ret
    exact ⟨by simp, rfl⟩
  · have d0 : decide (a0 < 1) = false := decide_eq_false h0
    by_cases h : a0 ≤ 18
    · have hd : decide (a0 ≤ 18) = true := decide_eq_true h
      have d1 : decide (1 ≤ a0) = true := decide_eq_true (by omega)
      clear h h0
      go_enter Try.func5, Try.ntmps5
      go_wp2_with (go_at_call 6; refine (branch_low a0 hd w).mono ?_; rintro e w' ⟨rfl, rfl⟩)
      go_ret
      exact ⟨by simp, rfl⟩
    · have hd : decide (a0 ≤ 18) = false := decide_eq_false h
      obtain ⟨q, r, hq, ha, h1, h18⟩ := part (show 18 < a0 by omega)
      have d1 : decide (1 ≤ r) = true := decide_eq_true (by omega)
      have d2 : decide (r ≤ 18) = true := decide_eq_true (by omega)
      have d3 : decide (r ≤ a0) = true := decide_eq_true (by omega)
      have hb := branch_high a0 q r hd hq ha h1 h18 w
      clear h h0 ha h1 h18 hq
      go_enter Try.func5, Try.ntmps5
      go_wp2_with (go_at_call 6; refine hb.mono ?_; rintro e w' ⟨rfl, rfl⟩)
      go_ret
      exact ⟨by simp, rfl⟩

end Go.Proofs.Qxb6604776a
