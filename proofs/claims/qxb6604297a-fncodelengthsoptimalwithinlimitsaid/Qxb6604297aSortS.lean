/-
  The stable sort as a whole: 33, 29.
-/
import Derived.Test.Qxb6604297aSortC
set_option linter.unusedVariables false
namespace Go.Proofs.Qxb6604297a
open Go.ChangeShapes Go.WideShapes Go.ChangeAt Go.RowKit

theorem sym_all (cs : List Int) (ca : Option Addr) (cc gc g N c : Nat) (hN2 : N ≤ 1048576) (d : Nat) : SymUpTo cs ca cc gc g N c d := by
  induction d with
  | zero => intro a m b X w h; omega
  | succ d ih =>
    intro a m b X w h1 h2 h3 h4 h5 h6 h7 h8 h9 h10
    by_cases c1 : m = a + 1
    · exact symA cs ca cc gc g N c a m b X w h5 h6 h7 h8 c1 h3 h4 hN2 h10
    · by_cases c2 : b = m + 1
      · exact symB cs ca cc gc g N c a m b X w h5 h6 h7 h8 (by omega) c2 h4 hN2 h9
      · exact symC cs ca cc gc g N c a m b X w (fun a' m' b' X' w' g1 => ih a' m' b' X' w' (by omega)) h5 h6 h7 h8 (by omega) (by omega) h4 hN2 h9 h10

theorem runs_ext {key : Int → Int} {Y Z : List Int} {bs a b : Nat} (h : Srt.Runs key Y bs 0 a) (hb : Srt.Brk bs a) (d : Srt.Dealt a b Y Z) (s : Srt.Srtd key Z a b) : Srt.Runs key Z bs 0 b := by
  intro k _ k2 k3
  by_cases c1 : k + 1 < a
  · rw [d.out k (.inl (by omega)), d.out (k + 1) (.inl c1)]
    exact h k (Nat.zero_le _) c1 k3
  · by_cases c2 : k + 1 = a
    · exact absurd (c2 ▸ hb) k3
    · exact s k (by omega) k2
theorem runs_keep {key : Int → Int} {Y Z : List Int} {bs a b n : Nat} (h : Srt.Runs key Y bs a n) (hab : a ≤ b) (d : Srt.Dealt a b Y Z) : Srt.Runs key Z bs b n := by
  intro k k1 k2 k3
  rw [d.out k (.inr k1), d.out (k + 1) (.inr (by omega))]
  exact h k (by omega) k2 k3
theorem runs_srtd {key : Int → Int} {Y : List Int} {bs lo n q a b : Nat} (h : Srt.Runs key Y bs lo n) (hlo : lo ≤ a) (ha : a = q * bs) (hb : b ≤ a + bs) (hn : b ≤ n) : Srt.Srtd key Y a b := by
  intro k k1 k2
  exact h k (by omega) (by omega) (Srt.no_brk (q := q) (by omega) (by omega))

set_option maxRecDepth 100000 in
set_option maxHeartbeats 4000000 in
theorem stable_any (cs : List Int) (ca : Option Addr) (cc gc g N c : Nat) (X : List Int) (w : World) (hX : SRow w g X) (env : SEnv cs ca cc gc g w) (ok : AllOk cs X) (hN : X.length = N) (hN2 : N ≤ 4096) :
    Calls Try.prog 33 #[.slice (some ⟨g, 0, none⟩) N c, .int .i64 N, .func (.func 30) #[] #[.pointer (some ⟨gc, 0, none⟩)]] w (SPost g 0 N X (fun X' => Srt.Srtd (keyOf cs) X' 0 N) w) := by
  have HST0 : Hid (SSt cs ca cc gc g N w 0 N X X w) := SSt.start hX env ok hN
  clear hX env ok hN
  go_enter Try.func33, Try.ntmps33
  go_upto_block 0 with fail
  go_cut [7, 8] (fun t s wx => ∃ (a : Nat) (Y : List Int), t = .int .i64 a ∧ a ≤ N ∧ Hid (N < a + 20 ∧ Srt.Brk 20 a ∧ Srt.Runs (keyOf cs) Y 20 0 a ∧ SSt cs ca cc gc g N w 0 N X Y wx))
  case first =>
    as_aux_lemma =>
      go_wp2
      go_loopg [7, 8] N (fun k t s wx => ∃ (a b : Nat) (Y : List Int), N - a ≤ k ∧ t = .int .i64 a ∧ s = .int .i64 b ∧ a ≤ N ∧ b = a + 20 ∧ Hid (Srt.Brk 20 a ∧ Srt.Runs (keyOf cs) Y 20 0 a ∧ SSt cs ca cc gc g N w 0 N X Y wx))
      case atStart => exact ⟨0, 20, X, by omega, rfl, rfl, by omega, rfl, ⟨0, rfl⟩, fun k _ k2 => by omega, HST0.out⟩
      case round =>
        obtain ⟨a, b, Y, hk, rfl, rfl, ha, hb, HY⟩ := hrel
        have HB : Hid (b = a + 20) := hb
        have hb1 : b ≤ 5000 := by omega
        have hb2 : a < b := by omega
        clear hb
        by_cases hbn : b ≤ N
        · go_wp2_with fail
          refine (insertion_any cs ca cc gc g N c a b Y wr HY.out.2.2.row HY.out.2.2.env HY.out.2.2.ok HY.out.2.2.len hbn ha (by omega)).mono ?_
          rintro e w1 ⟨rfl, Z, d1, hZ, hr1, hk1⟩
          go_wp2
          go_roundg (N - b)
          case measure => omega
          case rel =>
            refine ⟨b, b + 20, Z, Nat.le_refl _, rfl, by go_num, hbn, rfl, ?_, runs_ext HY.out.2.1 HY.out.1 d1 hZ, HY.out.2.2.step d1 (Nat.zero_le _) hbn hbn hr1 hk1⟩
            obtain ⟨q, hq⟩ := HY.out.1
            exact ⟨q + 1, by have := HB.out; omega⟩
        · go_wp2
          go_meet
          case rel => exact ⟨a, Y, rfl, ha, by have := HB.out; omega, HY.out⟩
  case rest =>
    obtain ⟨a, Y, rfl, ha, HY⟩ := hcut
    go_wp2_with fail
    refine (insertion_any cs ca cc gc g N c a N Y wc HY.out.2.2.2.row HY.out.2.2.2.env HY.out.2.2.2.ok HY.out.2.2.2.len (Nat.le_refl _) ha (by omega)).mono ?_
    rintro e w1 ⟨rfl, Z, d1, hZ, hr1, hk1⟩
    have H1 : Hid (Srt.Runs (keyOf cs) Z 20 0 N ∧ SSt cs ca cc gc g N w 0 N X Z w1) := ⟨runs_ext HY.out.2.2.1 HY.out.2.1 d1 hZ, HY.out.2.2.2.step d1 (Nat.zero_le _) (Nat.le_refl _) (Nat.le_refl _) hr1 hk1⟩
    clear HY d1 hZ hr1 hk1 HST0
    go_wp2
    go_loopg [6] N (fun k t wx => ∃ (bs : Nat) (Z : List Int), N - bs ≤ k ∧ t = .int .i64 bs ∧ 20 ≤ bs ∧ bs ≤ 8192 ∧ Hid (Srt.Runs (keyOf cs) Z bs 0 N ∧ SSt cs ca cc gc g N w 0 N X Z wx))
    case atStart => exact ⟨20, Z, by omega, rfl, by omega, by omega, H1⟩
    case round =>
      obtain ⟨bs, Z, hk, rfl, hbs1, hbs2, HZ⟩ := hrel
      by_cases hlt : bs < N
      · obtain ⟨d, hd⟩ : ∃ d, d = 2 * bs := ⟨_, rfl⟩
        have ed : 2 * (bs : Int) = (d : Int) := by omega
        have ed2 : (bs : Int) * 2 = (d : Int) := by omega
        have HDd : Hid (d = 2 * bs) := hd
        have hd1 : d ≤ 8192 := by omega
        have hd0 : 0 < d := by omega
        have hbd : bs < d := by omega
        clear hd
        go_upto_block 4 with fail
        go_cut [7, 8] (fun t s wx => ∃ (a : Nat) (Y : List Int), t = .int .i64 a ∧ a ≤ N ∧ Hid (N < a + d ∧ Srt.Brk d a ∧ Srt.Runs (keyOf cs) Y d 0 a ∧ Srt.Runs (keyOf cs) Y bs a N ∧ SSt cs ca cc gc g N w 0 N X Y wx))
        case first =>
          as_aux_lemma =>
            go_wp2
            go_loopg [7, 8] N (fun k t s wx => ∃ (a b : Nat) (Y : List Int), N - a ≤ k ∧ t = .int .i64 a ∧ s = .int .i64 b ∧ a ≤ N ∧ b ≤ 12288 ∧ Hid (b = a + d ∧ Srt.Brk d a ∧ Srt.Runs (keyOf cs) Y d 0 a ∧ Srt.Runs (keyOf cs) Y bs a N ∧ SSt cs ca cc gc g N w 0 N X Y wx))
            case atStart => exact ⟨0, d, Z, by omega, rfl, rfl, by omega, by omega, ⟨by omega, ⟨0, by omega⟩, fun k _ k2 => by omega, HZ.out.1, HZ.out.2⟩⟩
            case round =>
              obtain ⟨a, b, Y, hk, rfl, rfl, ha, hb1, HY⟩ := hrel
              obtain ⟨m, hm⟩ : ∃ m, m = a + bs := ⟨_, rfl⟩
              have em : (a : Int) + (bs : Int) = (m : Int) := by omega
              have HMm : Hid (m = a + bs) := hm
              have hab : a < b := by have := HY.out.1; omega
              clear hm
              by_cases hbn : b ≤ N
              · have hsr : Srt.Srtd (keyOf cs) Y a m ∧ Srt.Srtd (keyOf cs) Y m b := by
                  obtain ⟨q, hq⟩ := HY.out.2.1
                  have h1 := HDd.out
                  have h2 := HMm.out
                  have h3 := HY.out.1
                  have e1 : a = (q * 2) * bs := by rw [hq, h1, Nat.mul_assoc]
                  have e2 : m = (q * 2 + 1) * bs := by rw [Nat.add_mul, ← e1]; omega
                  exact ⟨runs_srtd HY.out.2.2.2.1 (Nat.le_refl _) e1 (by omega) (by omega), runs_srtd HY.out.2.2.2.1 (by omega) e2 (by omega) hbn⟩
                have HSR : Hid (Srt.Srtd (keyOf cs) Y a m ∧ Srt.Srtd (keyOf cs) Y m b) := hsr
                clear hsr
                go_wp2_with fail
                refine (sym_all cs ca cc gc g N c (by omega) (b - a + 1) a m b Y wr (by omega) (by have := HMm.out; omega) (by have := HMm.out; have := HDd.out; have := HY.out.1; omega) hbn HY.out.2.2.2.2.row HY.out.2.2.2.2.env HY.out.2.2.2.2.ok HY.out.2.2.2.2.len HSR.out.1 HSR.out.2).mono ?_
                rintro e w2 ⟨rfl, Z2, d2, hZ2, hr2, hk2⟩
                go_wp2
                go_roundg (N - b)
                case measure => omega
                case rel =>
                  refine ⟨b, b + d, Z2, Nat.le_refl _, rfl, by go_num, hbn, by omega, ⟨rfl, ?_, runs_ext HY.out.2.2.1 HY.out.2.1 d2 hZ2, runs_keep HY.out.2.2.2.1 (by omega) d2, HY.out.2.2.2.2.step d2 (Nat.zero_le _) hbn hbn hr2 hk2⟩⟩
                  obtain ⟨q, hq⟩ := HY.out.2.1
                  exact ⟨q + 1, by rw [Nat.add_mul, ← hq]; have := HY.out.1; omega⟩
              · go_wp2
                go_meet
                case rel => exact ⟨a, Y, rfl, ha, by have := HY.out.1; omega, HY.out.2⟩
        case rest =>
          obtain ⟨a, Y, rfl, ha, HY⟩ := hcut
          obtain ⟨m, hm⟩ : ∃ m, m = a + bs := ⟨_, rfl⟩
          have em : (a : Int) + (bs : Int) = (m : Int) := by omega
          have HMm : Hid (m = a + bs) := hm
          have HQ : Hid (∃ q, a = q * bs ∧ m = (q + 1) * bs) := by
            obtain ⟨q, hq⟩ := HY.out.2.1
            have h1 := HDd.out
            have e1 : a = (q * 2) * bs := by rw [hq, h1, Nat.mul_assoc]
            exact ⟨q * 2, e1, by rw [Nat.add_mul, ← e1]; omega⟩
          clear hm
          by_cases hmn : m < N
          · have HSR : Hid (Srt.Srtd (keyOf cs) Y a m ∧ Srt.Srtd (keyOf cs) Y m N) := by
              obtain ⟨q, e1, e2⟩ := HQ.out
              have h1 := HDd.out
              have h2 := HMm.out
              have h3 := HY.out.1
              exact ⟨runs_srtd HY.out.2.2.2.1 (Nat.le_refl _) e1 (by omega) (by omega), runs_srtd HY.out.2.2.2.1 (by omega) e2 (by omega) (Nat.le_refl _)⟩
            go_wp2_with fail
            refine (sym_all cs ca cc gc g N c (by omega) (N - a + 1) a m N Y wc (by omega) (by have := HMm.out; omega) hmn (Nat.le_refl _) HY.out.2.2.2.2.row HY.out.2.2.2.2.env HY.out.2.2.2.2.ok HY.out.2.2.2.2.len HSR.out.1 HSR.out.2).mono ?_
            rintro e w2 ⟨rfl, Z2, d2, hZ2, hr2, hk2⟩
            go_wp2
            go_roundg (N - d)
            case measure => omega
            case rel => exact ⟨d, Z2, Nat.le_refl _, rfl, by omega, hd1, runs_ext HY.out.2.2.1 HY.out.2.1 d2 hZ2, HY.out.2.2.2.2.step d2 (Nat.zero_le _) (Nat.le_refl _) (Nat.le_refl _) hr2 hk2⟩
          · go_wp2
            go_roundg (N - d)
            case measure => omega
            case rel =>
              refine ⟨d, Y, Nat.le_refl _, rfl, by omega, hd1, runs_ext HY.out.2.2.1 HY.out.2.1 (Srt.Dealt.refl _ _ _) ?_, HY.out.2.2.2.2⟩
              obtain ⟨q, e1, e2⟩ := HQ.out
              exact runs_srtd HY.out.2.2.2.1 (Nat.le_refl _) e1 (by have := HMm.out; omega) (Nat.le_refl _)
      · go_wp2
        go_end0
        refine ⟨rfl, Z, HZ.out.2.dealt, runs_srtd (q := 0) HZ.out.1 (Nat.le_refl _) (by omega) (by omega) (Nat.le_refl _), HZ.out.2.row, HZ.out.2.keep⟩

set_option maxHeartbeats 1000000 in
theorem sort_any (cs : List Int) (ca : Option Addr) (cc gc g N c : Nat) (X : List Int) (w : World) (hX : SRow w g X) (env : SEnv cs ca cc gc g w) (ok : AllOk cs X) (hN : X.length = N) (hN2 : N ≤ 4096) :
    Calls Try.prog 29 #[.slice (some ⟨g, 0, none⟩) N c, .func (.func 30) #[] #[.pointer (some ⟨gc, 0, none⟩)]] w (SPost g 0 N X (fun X' => Srt.Srtd (keyOf cs) X' 0 N) w) := by
  go_enter Try.func29, Try.ntmps29
  go_wp2_with fail
  refine (stable_any cs ca cc gc g N c X w hX env ok hN hN2).mono ?_
  rintro e w1 ⟨rfl, hq⟩
  go_wp2
  go_end0
  exact ⟨rfl, hq⟩
end Go.Proofs.Qxb6604297a
