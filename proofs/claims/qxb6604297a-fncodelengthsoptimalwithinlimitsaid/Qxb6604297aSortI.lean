/-
  insertionSort (34).
-/
import Derived.Test.Qxb6604297aSortW
set_option linter.unusedVariables false
namespace Go.Proofs.Qxb6604297a
open Go.ChangeShapes Go.WideShapes Go.ChangeAt Go.RowKit

/-- The state of a sorting walk: Y is what X has become. -/
structure SSt (cs : List Int) (ca : Option Addr) (cc gc g N : Nat) (w : World) (a b : Nat) (X Y : List Int) (wx : World) : Prop where
  dealt : Srt.Dealt a b X Y
  row : SRow wx g Y
  keep : Keeps (fun k => k = g) w wx
  env : SEnv cs ca cc gc g wx
  ok : AllOk cs Y
  len : Y.length = N
theorem SSt.start {cs : List Int} {ca : Option Addr} {cc gc g N : Nat} {w : World} {a b : Nat} {X : List Int} (hX : SRow w g X) (env : SEnv cs ca cc gc g w) (ok : AllOk cs X) (hN : X.length = N) : SSt cs ca cc gc g N w a b X X w :=
  ⟨Srt.Dealt.refl _ _ _, hX, Keeps.refl _ _, env, ok, hN⟩
theorem SSt.drewN {cs : List Int} {ca : Option Addr} {cc gc g N : Nat} {w wx : World} {a b : Nat} {X Y : List Int} (h : SSt cs ca cc gc g N w a b X Y wx) (n : Nat) : SSt cs ca cc gc g N w a b X Y (wx.drewN n) :=
  ⟨h.dealt, h.row, h.keep.drewN n, h.env.drewN n, h.ok, h.len⟩
theorem SSt.swap {cs : List Int} {ca : Option Addr} {cc gc g N : Nat} {w wx : World} {a b : Nat} {X Y : List Int} (h : SSt cs ca cc gc g N w a b X Y wx) {p q : Nat} (hp1 : a ≤ p) (hp2 : p < b) (hq1 : a ≤ q) (hq2 : q < b) (hb : b ≤ N) :
    SSt cs ca cc gc g N w a b X (Srt.swp Y p q) ((wx.setCell ⟨g, p, none⟩ (.int .i64 (Y.getD q 0))).setCell ⟨g, q, none⟩ (.int .i64 (Y.getD p 0))).drew := by
  have d := Srt.dealt_swp (X := Y) hp1 hp2 hq1 hq2 (by rw [h.len]; exact hb)
  have hk : Keeps (fun k => k = g) wx ((wx.setCell ⟨g, p, none⟩ (.int .i64 (Y.getD q 0))).setCell ⟨g, q, none⟩ (.int .i64 (Y.getD p 0))).drew :=
    (((Keeps.refl (fun k => k = g) wx).set (p := ⟨g, p, none⟩) rfl _).set (p := ⟨g, q, none⟩) rfl _).drew
  exact ⟨h.dealt.trans d, row_swp h.row (by rw [h.len]; omega) (by rw [h.len]; omega), h.keep.trans hk, h.env.keeps hk, h.ok.dealt d (by rw [h.len]; exact hb), by rw [d.len]; exact h.len⟩
theorem SSt.step {cs : List Int} {ca : Option Addr} {cc gc g N : Nat} {w wx wy : World} {a b a' b' : Nat} {X Y Z : List Int} (h : SSt cs ca cc gc g N w a b X Y wx) (d : Srt.Dealt a' b' Y Z) (ha : a ≤ a') (hb : b' ≤ b) (hbN : b' ≤ N) (hr : SRow wy g Z) (hk : Keeps (fun k => k = g) wx wy) : SSt cs ca cc gc g N w a b X Z wy :=
  ⟨h.dealt.trans (d.mono ha hb), hr, h.keep.trans hk, h.env.keeps hk, h.ok.dealt d (by rw [h.len]; exact hbN), by rw [d.len]; exact h.len⟩

set_option maxRecDepth 100000 in
set_option maxHeartbeats 4000000 in
theorem insertion_any (cs : List Int) (ca : Option Addr) (cc gc g N c a b : Nat) (X : List Int) (w : World) (hX : SRow w g X) (env : SEnv cs ca cc gc g w) (ok : AllOk cs X) (hN : X.length = N) (hbN : b ≤ N) (haN : a ≤ N) (hN2 : N ≤ 1048576) :
    Calls Try.prog 34 #[.slice (some ⟨g, 0, none⟩) N c, .int .i64 a, .int .i64 b, .func (.func 30) #[] #[.pointer (some ⟨gc, 0, none⟩)]] w (SPost g a b X (fun X' => Srt.Srtd (keyOf cs) X' a b) w) := by
  have hst0 : SSt cs ca cc gc g N w a b X X w := SSt.start hX env ok hN
  have HST0 : Hid (SSt cs ca cc gc g N w a b X X w) := hst0
  clear hst0 hX env ok
  go_enter Try.func34, Try.ntmps34
  go_wp2
  go_loopg [8] (N + 1) (fun k t wx => ∃ (i : Nat) (Y : List Int), N + 1 - i ≤ k ∧ t = .int .i64 i ∧ a + 1 ≤ i ∧ i ≤ N + 1 ∧ Hid (Srt.Srtd (keyOf cs) Y a i ∧ SSt cs ca cc gc g N w a b X Y wx))
  case atStart => exact ⟨a + 1, X, by omega, by go_num, by omega, by omega, ⟨fun k k1 k2 => by omega, HST0.out⟩⟩
  case round =>
    obtain ⟨i, Y, hk, rfl, hi1, hi2, HS⟩ := hrel
    by_cases hlt : i < b
    · go_upto_block 1 with fail
      go_cut [9] (fun _ wx => ∃ Z, Srt.Srtd (keyOf cs) Z a (i + 1) ∧ SSt cs ca cc gc g N w a b X Z wx)
      case first =>
        go_wp2
        go_loopg [9] i (fun k t wx => ∃ (j : Nat) (Z : List Int), j ≤ k ∧ t = .int .i64 j ∧ a ≤ j ∧ j ≤ i ∧ Hid (Srt.InsAt (keyOf cs) Z a i j ∧ SSt cs ca cc gc g N w a b X Z wx))
        case atStart => exact ⟨i, Y, Nat.le_refl _, rfl, by omega, Nat.le_refl _, Srt.InsAt.start HS.out.1, HS.out.2⟩
        case round =>
          obtain ⟨j, Z, hkj, rfl, hj1, hj2, HZ⟩ := hrel
          by_cases haj : a < j
          · have dja : decide ((a : Int) < (j : Int)) = true := decide_eq_true (by omega)
            have st := HZ.out.2
            have q1 := st.row.cell (show j < Z.length by rw [st.len]; omega)
            have q2 := st.row.cell (show j - 1 < Z.length by rw [st.len]; omega)
            have f1 := st.row.frozen j
            have f2 := st.row.frozen (j - 1)
            have o1 := st.ok j (by rw [st.len]; omega)
            have o2 := st.ok (j - 1) (by rw [st.len]; omega)
            obtain ⟨x, hx⟩ : ∃ x, x = Z.getD j 0 := ⟨_, rfl⟩
            obtain ⟨y, hy⟩ : ∃ y, y = Z.getD (j - 1) 0 := ⟨_, rfl⟩
            rw [← hx] at q1 o1
            rw [← hy] at q2 o2
            have HXY : Hid (x = Z.getD j 0 ∧ y = Z.getD (j - 1) 0) := ⟨hx, hy⟩
            have O12 : Hid (OkSym cs x ∧ OkSym cs y) := ⟨o1, o2⟩
            have e1 : 0 ≤ (j : Int) - 1 := by omega
            have e2 : (j : Int) - 1 < (N : Int) := by omega
            have e3 : (j : Int) < (N : Int) := by omega
            have HE : Hid (SEnv cs ca cc gc g wr) := st.env
            clear st o1 o2 hx hy
            by_cases hlk : keyOf cs x - keyOf cs y < 0
            · have dlk : decide (keyOf cs x - keyOf cs y < 0) = true := decide_eq_true hlk
              go_wp2
              go_quiet ((go_at_call 30; exact Calls.quiet_of (cmp_any cs ca cc gc g x y _ (HE.out.drewN _) O12.out.1 O12.out.2)))
              go_wp2
              go_region
              go_wp2
              go_roundg (j - 1)
              case measure => omega
              case rel =>
                have st := HZ.out.2.drewN nq
                refine ⟨j - 1, Srt.swp Z j (j - 1), Nat.le_refl _, by go_num, by omega, by omega, HZ.out.1.step haj hj2 (by rw [st.len]; omega) (by rw [← HXY.out.1, ← HXY.out.2]; omega), ?_⟩
                have h9 := st.swap (p := j) (q := j - 1) (by omega) (by omega) (by omega) (by omega) hbN
                rw [← HXY.out.1, ← HXY.out.2] at h9
                exact h9
            · have dlk : decide (keyOf cs x - keyOf cs y < 0) = false := decide_eq_false hlk
              go_wp2
              go_quiet ((go_at_call 30; exact Calls.quiet_of (cmp_any cs ca cc gc g x y _ (HE.out.drewN _) O12.out.1 O12.out.2)))
              go_wp2
              go_meet
              case rel => exact ⟨Z, HZ.out.1.done hj1 (fun _ => by rw [← HXY.out.1, ← HXY.out.2]; omega), HZ.out.2.drewN nq⟩
          · have dja : decide ((a : Int) < (j : Int)) = false := decide_eq_false (by omega)
            go_wp2
            go_quiet (fail)
            go_wp2
            go_meet
            case rel => exact ⟨Z, HZ.out.1.done hj1 (fun h => absurd h haj), HZ.out.2.drewN nq⟩
      case rest =>
        obtain ⟨Z, hZ⟩ := hcut
        have HZ : Hid (Srt.Srtd (keyOf cs) Z a (i + 1) ∧ SSt cs ca cc gc g N w a b X Z wc) := hZ
        clear hZ
        go_wp2
        go_roundg (N + 1 - (i + 1))
        case measure => omega
        case rel => exact ⟨i + 1, Z, Nat.le_refl _, by go_num, by omega, by omega, HZ⟩
    · go_wp2
      go_end0
      exact ⟨rfl, Y, HS.out.2.dealt, HS.out.1.sub (Nat.le_refl _) (by omega), HS.out.2.row, HS.out.2.keep⟩
end Go.Proofs.Qxb6604297a
