/-
  symMerge (35): a run of one element on the left.
-/
import Derived.Test.Qxb6604297aSortI
set_option linter.unusedVariables false
namespace Go.Proofs.Qxb6604297a
open Go.ChangeShapes Go.WideShapes Go.ChangeAt Go.RowKit

set_option maxRecDepth 100000 in
set_option maxHeartbeats 4000000 in
theorem symA (cs : List Int) (ca : Option Addr) (cc gc g N c a m b : Nat) (X : List Int) (w : World) (hX : SRow w g X) (env : SEnv cs ca cc gc g w) (ok : AllOk cs X) (hN : X.length = N) (ham : m = a + 1) (hmb : m < b) (hbN : b ≤ N) (hN2 : N ≤ 1048576) (hs2 : Srt.Srtd (keyOf cs) X m b) :
    Calls Try.prog 35 #[.slice (some ⟨g, 0, none⟩) N c, .int .i64 a, .int .i64 m, .int .i64 b, .func (.func 30) #[] #[.pointer (some ⟨gc, 0, none⟩)]] w (SPost g a b X (fun X' => Srt.Srtd (keyOf cs) X' a b) w) := by
  have hst0 : SSt cs ca cc gc g N w a b X X w := SSt.start hX env ok hN
  have HST0 : Hid (SSt cs ca cc gc g N w a b X X w) := hst0
  have HS2 : Hid (Srt.Srtd (keyOf cs) X m b) := hs2
  have r1 : (m : Int) - (a : Int) = 1 := by omega
  have HAM : Hid (m = a + 1) := ham
  have b1 : a < m := by omega
  have oa := ok a (by omega)
  obtain ⟨xa, hxa⟩ : ∃ xa, xa = X.getD a 0 := ⟨_, rfl⟩
  rw [← hxa] at oa
  have HXA : Hid (xa = X.getD a 0) := hxa
  have OA : Hid (OkSym cs xa) := oa
  have HO : Hid (AllOk cs X ∧ X.length = N) := ⟨ok, hN⟩
  have ia : (a : Int) < (N : Int) := by omega
  clear hst0 hX env ok hs2 ham oa hxa hN
  go_enter Try.func35, Try.ntmps35
  go_upto_block 0 with fail
  go_cut [10, 11] (fun ti tj wx => ∃ i : Nat, ti = .int .i64 i ∧ m ≤ i ∧ i ≤ b ∧ Hid (SSt cs ca cc gc g N w a b X X wx ∧ (m < i → keyOf cs (X.getD (i - 1) 0) < keyOf cs xa) ∧ (i < b → keyOf cs xa ≤ keyOf cs (X.getD i 0))))
  case first =>
    go_wp2
    go_loopg [10, 11] b (fun k ti tj wx => ∃ (i j : Nat), j - i ≤ k ∧ ti = .int .i64 i ∧ tj = .int .i64 j ∧ m ≤ i ∧ i ≤ j ∧ j ≤ b ∧ Hid (SSt cs ca cc gc g N w a b X X wx ∧ (m < i → keyOf cs (X.getD (i - 1) 0) < keyOf cs xa) ∧ (j < b → keyOf cs xa ≤ keyOf cs (X.getD j 0))))
    case atStart => exact ⟨m, b, by omega, rfl, rfl, Nat.le_refl _, by omega, Nat.le_refl _, ⟨HST0.out, fun h => by omega, fun h => by omega⟩⟩
    case round =>
      obtain ⟨i, j, hk, rfl, rfl, hi1, hij, hj, HB⟩ := hrel
      have HE : Hid (SEnv cs ca cc gc g wr) := HB.out.1.env
      have q0 : wr.cell? ⟨g, a, none⟩ = some (.int .i64 xa) := by rw [HB.out.1.row.cell (by rw [HB.out.1.len]; omega), ← HXA.out]
      by_cases hlt : i < j
      · obtain ⟨h, hh⟩ : ∃ h, h = (i + j) / 2 := ⟨_, rfl⟩
        have eh : ((i : Int) + (j : Int)) / 2 = (h : Int) := by omega
        have h1 : i ≤ h := by omega
        have h2 : h < j := by omega
        have HH : Hid (h = (i + j) / 2) := hh
        have q1 := HB.out.1.row.cell (show h < X.length by have := HO.out.2; omega)
        obtain ⟨x, hx⟩ : ∃ x, x = X.getD h 0 := ⟨_, rfl⟩
        rw [← hx] at q1
        have HXX : Hid (x = X.getD h 0) := hx
        have OX : Hid (OkSym cs x) := by have := HO.out.1 h (by have := HO.out.2; omega); rw [hx]; exact this
        have ih : (h : Int) < (N : Int) := by omega
        clear hh hx
        by_cases hlk : keyOf cs x - keyOf cs xa < 0
        · have dlk : decide (keyOf cs x - keyOf cs xa < 0) = true := decide_eq_true hlk
          go_upto_region 5 with fail
          go_quiet ((go_at_call 30; exact Calls.quiet_of (cmp_any cs ca cc gc g x xa _ (HE.out.drewN _) OX.out OA.out)))
          go_wp2
          go_roundg (j - (h + 1))
          case measure => omega
          case rel => exact ⟨h + 1, j, Nat.le_refl _, by go_num, rfl, by omega, by omega, hj, ⟨HB.out.1.drewN _, fun _ => by rw [Nat.add_sub_cancel, ← HXX.out]; omega, HB.out.2.2⟩⟩
        · have dlk : decide (keyOf cs x - keyOf cs xa < 0) = false := decide_eq_false hlk
          go_upto_region 5 with fail
          go_quiet ((go_at_call 30; exact Calls.quiet_of (cmp_any cs ca cc gc g x xa _ (HE.out.drewN _) OX.out OA.out)))
          go_wp2
          go_roundg (h - i)
          case measure => omega
          case rel => exact ⟨i, h, Nat.le_refl _, rfl, rfl, hi1, h1, by omega, ⟨HB.out.1.drewN _, HB.out.2.1, fun _ => by rw [← HXX.out]; omega⟩⟩
      · have hij2 : i = j := by omega
        subst hij2
        go_wp2
        go_meet
        case rel => exact ⟨i, rfl, hi1, hj, HB⟩
  case rest =>
    obtain ⟨i, rfl, hi1, hib, HB⟩ := hcut
    go_wp2
    go_loopg [13] b (fun k t wx => ∃ (u : Nat) (Y : List Int), i - u ≤ k ∧ t = .int .i64 u ∧ a ≤ u ∧ u ≤ i - 1 ∧ Hid ((∀ v, Y.getD v 0 = if a ≤ v ∧ v < u then X.getD (v + 1) 0 else if v = u then X.getD a 0 else X.getD v 0) ∧ SSt cs ca cc gc g N w a b X Y wx))
    case atStart => exact ⟨a, X, by omega, rfl, Nat.le_refl _, by omega, ⟨fun v => by by_cases e : v = a; rw [if_neg (by omega), if_pos e, e]; rw [if_neg (by omega), if_neg e], HB.out.1⟩⟩
    case round =>
      obtain ⟨u, Y, hk, rfl, hu1, hu2, HY⟩ := hrel
      by_cases hlt : u < i - 1
      · have st := HY.out.2
        have q1 := st.row.cell (show u < Y.length by rw [st.len]; omega)
        have q2 := st.row.cell (show u + 1 < Y.length by rw [st.len]; omega)
        have f1 := st.row.frozen u
        have f2 := st.row.frozen (u + 1)
        obtain ⟨x, hx⟩ : ∃ x, x = Y.getD u 0 := ⟨_, rfl⟩
        obtain ⟨y, hy⟩ : ∃ y, y = Y.getD (u + 1) 0 := ⟨_, rfl⟩
        rw [← hx] at q1
        rw [← hy] at q2
        have HXY : Hid (x = Y.getD u 0 ∧ y = Y.getD (u + 1) 0) := ⟨hx, hy⟩
        have e1 : (u : Int) < (N : Int) := by omega
        have e2 : (u : Int) + 1 < (N : Int) := by omega
        have hlt' : (u : Int) < (i : Int) - 1 := by omega
        clear st hx hy
        go_wp2
        go_region
        go_wp2
        go_roundg (i - (u + 1))
        case measure => omega
        case rel =>
          have st := HY.out.2
          have h9 := st.swap (p := u) (q := u + 1) (by omega) (by omega) (by omega) (by omega) hbN
          rw [← HXY.out.1, ← HXY.out.2] at h9
          refine ⟨u + 1, Srt.swp Y u (u + 1), Nat.le_refl _, by go_num, by omega, by omega, ?_, h9⟩
          intro v
          rw [Srt.swp_at Y (by rw [st.len]; omega) (by rw [st.len]; omega), HY.out.1, HY.out.1, HY.out.1]
          repeat' split
          all_goals first | (exfalso; omega) | rfl | (congr 1 <;> omega)
      · have hlt' : ¬ (u : Int) < (i : Int) - 1 := by omega
        have hue : u = i - 1 := by omega
        go_wp2
        go_end0
        refine ⟨rfl, Y, HY.out.2.dealt, ?_, HY.out.2.row, HY.out.2.keep⟩
        intro k k1 k2
        rw [HY.out.1, HY.out.1]
        have hm := HAM.out
        by_cases c1 : k + 1 < u
        · rw [if_pos (by omega), if_pos (by omega)]
          exact HS2.out (k + 1) (by omega) (by omega)
        · by_cases c2 : k + 1 = u
          · rw [if_pos (by omega), if_neg (by omega), if_pos c2, ← HXA.out]
            have := HB.out.2.1 (by omega)
            rw [show i - 1 = k + 1 by omega] at this
            omega
          · by_cases c3 : k = u
            · rw [if_neg (by omega), if_pos c3, if_neg (by omega), if_neg (by omega), ← HXA.out]
              have := HB.out.2.2 (by omega)
              rw [show i = k + 1 by omega] at this
              exact this
            · rw [if_neg (by omega), if_neg c3, if_neg (by omega), if_neg (by omega)]
              exact HS2.out k (by omega) k2
end Go.Proofs.Qxb6604297a
