/-
  zzTakeLightest (27).
-/
import Derived.Test.Qxb6604297aHuffC
import Derived.Test.Qxb6604297aKraft
set_option linter.unusedVariables false
namespace Go.Proofs.Qxb6604297a
open Go.ChangeShapes Go.WideShapes Go.ChangeAt Go.RowKit

/-- What zzTakeLightest leaves. -/
def TakePost (g n : Nat) (X : List Int) (w : World) (e : Ending) (w' : World) : Prop :=
  ∃ m, m < n ∧ (∀ i, i < n → X.getD m 0 ≤ X.getD i 0) ∧ e = .returned (.int .i64 (X.getD m 0)) ∧ Row w' g 2 .i64 (X.set m (X.getD (n - 1) 0)) ∧ Keeps (fun k => k = g) w w'

set_option maxRecDepth 100000 in
set_option maxHeartbeats 2000000 in
theorem take_any (g N n c : Nat) (X : List Int) (w : World) (hX : Row w g 2 .i64 X) (hN : X.length = N) (h1 : 1 ≤ n) (hn : n ≤ N) (hsz : N ≤ 1048576) :
    Calls Try.prog 27 #[.slice (some ⟨g, 0, none⟩) N c, .int .i64 n] w (TakePost g n X w) := by
  go_enter Try.func27, Try.ntmps27
  go_wp2
  go_loopg [5, 6] n (fun k tm ti wx => ∃ (i m : Nat), n - i ≤ k ∧ tm = .int .i64 m ∧ ti = .int .i64 i ∧ 1 ≤ i ∧ i ≤ n ∧ m < i ∧ Hid (∀ j, j < i → X.getD m 0 ≤ X.getD j 0) ∧ ∃ nq, wx = w.drewN nq)
  case atStart => exact ⟨1, 0, by omega, rfl, rfl, by omega, by omega, by omega, fun j hj => by rw [show j = 0 by omega]; exact Int.le_refl _, 0, rfl⟩
  case round =>
    obtain ⟨i, m, hk, rfl, rfl, hi1, hi2, hmi, HM, nq, rfl⟩ := hrel
    have q2 := hX.cell (show m < X.length by omega)
    have j2 : (m : Int) < (N : Int) := by omega
    obtain ⟨y, hy⟩ : ∃ y, y = X.getD m 0 := ⟨_, rfl⟩
    rw [← hy] at q2
    have HY : Hid (y = X.getD m 0) := hy
    clear hy
    by_cases hlt : i < n
    · have q1 := hX.cell (show i < X.length by omega)
      obtain ⟨x, hx⟩ : ∃ x, x = X.getD i 0 := ⟨_, rfl⟩
      rw [← hx] at q1
      have HXx : Hid (x = X.getD i 0) := hx
      have j1 : (i : Int) < (N : Int) := by omega
      clear hx
      by_cases hxy : x < y
      · have dxy : decide (x < y) = true := decide_eq_true hxy
        go_wp2
        go_quiet (fail)
        go_wp2
        go_roundg (n - (i + 1))
        case measure => omega
        case rel =>
          refine ⟨i + 1, i, Nat.le_refl _, rfl, by go_num, by omega, by omega, by omega, ?_, _, rfl⟩
          intro j hj
          rw [← HXx.out]
          by_cases e : j = i
          · rw [e, ← HXx.out]; exact Int.le_refl _
          · have := HM.out j (by omega)
            rw [← HY.out] at this
            omega
      · have dxy : decide (x < y) = false := decide_eq_false hxy
        go_wp2
        go_quiet (fail)
        go_wp2
        go_roundg (n - (i + 1))
        case measure => omega
        case rel =>
          refine ⟨i + 1, m, Nat.le_refl _, rfl, by go_num, by omega, by omega, by omega, ?_, _, rfl⟩
          intro j hj
          rw [← HY.out]
          by_cases e : j = i
          · rw [e, ← HXx.out]; omega
          · have := HM.out j (by omega)
            rw [← HY.out] at this
            exact this
    · have q3 := hX.cell (show n - 1 < X.length by omega)
      have q4 := hX.frozen m
      have hie : i = n := by omega
      obtain ⟨z, hz⟩ : ∃ z, z = X.getD (n - 1) 0 := ⟨_, rfl⟩
      rw [← hz] at q3
      have HZ : Hid (z = X.getD (n - 1) 0) := hz
      have j3 : (0 : Int) ≤ (n : Int) - 1 := by omega
      have j4 : (n : Int) - 1 < (N : Int) := by omega
      have HX : Hid (Row w g 2 .i64 X) := hX
      have HIE : Hid (i = n) := hie
      clear hz hX hie
      go_wp2
      go_ret
      refine ⟨m, by omega, fun j hj => HM.out j (by rw [HIE.out]; exact hj), by rw [← HY.out]; rfl, ?_, Keeps.set (S := fun k => k = g) (p := ⟨g, m, none⟩) ((Keeps.refl _ w).drewN nq) rfl _⟩
      rw [← HZ.out]
      exact Row.set (w := w.drewN nq) HX.out m z
end Go.Proofs.Qxb6604297a
