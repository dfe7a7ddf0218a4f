/-
  symMerge (35): the general case, out of itself on shorter stretches.
-/
import Derived.Test.Qxb6604297aSortA
import Derived.Test.Qxb6604297aSortB
set_option linter.unusedVariables false
namespace Go.Proofs.Qxb6604297a
open Go.ChangeShapes Go.WideShapes Go.ChangeAt Go.RowKit

/-- What symMerge does on stretches shorter than d. -/
def SymUpTo (cs : List Int) (ca : Option Addr) (cc gc g N c d : Nat) : Prop :=
  ∀ (a m b : Nat) (X : List Int) (w : World), b - a < d → a < m → m < b → b ≤ N → SRow w g X → SEnv cs ca cc gc g w → AllOk cs X → X.length = N → Srt.Srtd (keyOf cs) X a m → Srt.Srtd (keyOf cs) X m b →
    Calls Try.prog 35 #[.slice (some ⟨g, 0, none⟩) N c, .int .i64 a, .int .i64 m, .int .i64 b, .func (.func 30) #[] #[.pointer (some ⟨gc, 0, none⟩)]] w (SPost g a b X (fun X' => Srt.Srtd (keyOf cs) X' a b) w)

theorem rot_id (x : Nat → Int) (s m e i : Nat) (h : s = m ∨ m = e) (hs : s ≤ m) (he : m ≤ e) : Srt.rotR x s m e i = x i := by
  unfold Srt.rotR
  rcases h with h | h
  · subst h
    repeat' split
    all_goals first | rfl | (congr 1 <;> omega)
  · subst h
    repeat' split
    all_goals first | (exfalso; omega) | rfl | (congr 1 <;> omega)

set_option maxRecDepth 100000 in
set_option maxHeartbeats 8000000 in
theorem symC (cs : List Int) (ca : Option Addr) (cc gc g N c a m b : Nat) (X : List Int) (w : World) (IH : SymUpTo cs ca cc gc g N c (b - a)) (hX : SRow w g X) (env : SEnv cs ca cc gc g w) (ok : AllOk cs X) (hN : X.length = N) (ham : a + 1 < m) (hmb : m + 1 < b) (hbN : b ≤ N) (hN2 : N ≤ 1048576)
    (hs1 : Srt.Srtd (keyOf cs) X a m) (hs2 : Srt.Srtd (keyOf cs) X m b) :
    Calls Try.prog 35 #[.slice (some ⟨g, 0, none⟩) N c, .int .i64 a, .int .i64 m, .int .i64 b, .func (.func 30) #[] #[.pointer (some ⟨gc, 0, none⟩)]] w (SPost g a b X (fun X' => Srt.Srtd (keyOf cs) X' a b) w) := by
  have HST0 : Hid (SSt cs ca cc gc g N w a b X X w) := SSt.start hX env ok hN
  have HSS : Hid (Srt.Srtd (keyOf cs) X a m ∧ Srt.Srtd (keyOf cs) X m b) := ⟨hs1, hs2⟩
  have r0 : ((m : Int) - (a : Int) == 1) = false := beq_eq_false_iff_ne.2 (by omega)
  have r1 : ((b : Int) - (m : Int) == 1) = false := beq_eq_false_iff_ne.2 (by omega)
  have HO : Hid (AllOk cs X ∧ X.length = N) := ⟨ok, hN⟩
  obtain ⟨mid, hmid⟩ : ∃ mid, mid = (a + b) / 2 := ⟨_, rfl⟩
  obtain ⟨nn, hnn⟩ : ∃ nn, nn = mid + m := ⟨_, rfl⟩
  obtain ⟨p, hp⟩ : ∃ p, p = nn - 1 := ⟨_, rfl⟩
  obtain ⟨lo, hlo⟩ : ∃ lo, lo = if mid < m then nn - b else a := ⟨_, rfl⟩
  obtain ⟨hi, hhi⟩ : ∃ hi, hi = if mid < m then mid else m := ⟨_, rfl⟩
  have em : ((a : Int) + (b : Int)) / 2 = (mid : Int) := by omega
  have en : (mid : Int) + (m : Int) = (nn : Int) := by omega
  have ep : (nn : Int) - 1 = (p : Int) := by omega
  have HM : Hid (mid = (a + b) / 2 ∧ nn = mid + m ∧ p = nn - 1 ∧ (lo = if mid < m then nn - b else a) ∧ (hi = if mid < m then mid else m)) := ⟨hmid, hnn, hp, hlo, hhi⟩
  have B : Hid (a ≤ lo ∧ lo ≤ hi ∧ hi ≤ m ∧ hi ≤ mid ∧ nn ≤ lo + b ∧ a < mid ∧ mid < b ∧ (lo = a ∨ lo + b = nn) ∧ (hi = m ∨ hi = mid)) := by
    show _ ∧ _
    by_cases e : mid < m
    · rw [if_pos e] at hlo hhi; omega
    · rw [if_neg e] at hlo hhi; omega
  have bb1 : lo ≤ hi := B.out.2.1
  have bb2 : hi ≤ 1048576 := by have := B.out; omega
  have bb3 : nn ≤ 2097152 := by omega
  have bb4 : mid ≤ 1048576 := by omega
  have HIH : Hid (SymUpTo cs ca cc gc g N c (b - a)) := IH
  clear hX env ok hs1 hs2 hN hmid hnn hp hlo hhi IH
  go_enter Try.func35, Try.ntmps35
  go_upto_if 140 with fail
  go_cut [20, 21] (fun t s wx => wx = w ∧ t = .int .i64 lo ∧ s = .int .i64 hi)
  case first =>
    as_aux_lemma =>
      by_cases e : mid < m
      · have e1 : (nn : Int) - (b : Int) = (lo : Int) := by have := HM.out.2.2.2.1; rw [if_pos e] at this; have := B.out; have := HM.out; omega
        have e2 : mid = hi := by have := HM.out.2.2.2.2; rw [if_pos e] at this; exact this.symm
        subst e2
        go_wp2
        go_meet
        case rel => exact ⟨rfl, rfl, rfl⟩
      · have e1 : a = lo := by have := HM.out.2.2.2.1; rw [if_neg e] at this; exact this.symm
        have e2 : m = hi := by have := HM.out.2.2.2.2; rw [if_neg e] at this; exact this.symm
        subst e1 e2
        go_wp2
        go_meet
        case rel => exact ⟨rfl, rfl, rfl⟩
  case rest =>
    as_aux_lemma =>
      obtain ⟨hwx, rfl, rfl⟩ := hcut
      have hwx' := hwx.symm
      subst hwx'
      go_upto_block 8 with fail
      go_cut [20, 21] (fun t _ wx => ∃ s : Nat, t = .int .i64 s ∧ lo ≤ s ∧ s ≤ hi ∧ Hid (SSt cs ca cc gc g N w a b X X wx ∧ (lo < s → keyOf cs (X.getD (s - 1) 0) ≤ keyOf cs (X.getD (nn - s) 0)) ∧ (s < hi → keyOf cs (X.getD (nn - s - 1) 0) ≤ keyOf cs (X.getD s 0))))
      case first =>
        as_aux_lemma =>
          go_wp2
          go_loopg [20, 21] N (fun k t t2 wx => ∃ (s r : Nat), r - s ≤ k ∧ t = .int .i64 s ∧ t2 = .int .i64 r ∧ lo ≤ s ∧ s ≤ r ∧ r ≤ hi ∧ Hid (SSt cs ca cc gc g N w a b X X wx ∧ (lo < s → keyOf cs (X.getD (s - 1) 0) ≤ keyOf cs (X.getD (nn - s) 0)) ∧ (r < hi → keyOf cs (X.getD (nn - r - 1) 0) ≤ keyOf cs (X.getD r 0))))
          case atStart => exact ⟨lo, hi, by have := B.out; omega, rfl, rfl, Nat.le_refl _, bb1, Nat.le_refl _, ⟨HST0.out, fun h => by omega, fun h => by omega⟩⟩
          case round =>
            obtain ⟨s, r, hk, rfl, rfl, hs1, hsr, hr1, HB⟩ := hrel
            have HE : Hid (SEnv cs ca cc gc g wr) := HB.out.1.env
            by_cases hlt : s < r
            · obtain ⟨h, hh⟩ : ∃ h, h = (s + r) / 2 := ⟨_, rfl⟩
              obtain ⟨pc, hpc⟩ : ∃ pc, pc = p - h := ⟨_, rfl⟩
              have eh : ((s : Int) + (r : Int)) / 2 = (h : Int) := by omega
              have epc : (p : Int) - (h : Int) = (pc : Int) := by have := B.out; have := HM.out; omega
              have h1 : s ≤ h := by omega
              have h2 : h < r := by omega
              have HH : Hid (h = (s + r) / 2 ∧ pc = p - h) := ⟨hh, hpc⟩
              have hhN : h < N := by have := B.out; omega
              have hpcN : pc < N := by have := B.out; have := HM.out; omega
              have q1 := HB.out.1.row.cell (show h < X.length by have := HO.out.2; omega)
              have q2 := HB.out.1.row.cell (show pc < X.length by have := HO.out.2; omega)
              obtain ⟨x, hx⟩ : ∃ x, x = X.getD h 0 := ⟨_, rfl⟩
              obtain ⟨y, hy⟩ : ∃ y, y = X.getD pc 0 := ⟨_, rfl⟩
              rw [← hx] at q1
              rw [← hy] at q2
              have HXX : Hid (x = X.getD h 0 ∧ y = X.getD pc 0) := ⟨hx, hy⟩
              have OX : Hid (OkSym cs x) := by have := HO.out.1 h (by have := HO.out.2; omega); rw [hx]; exact this
              have OY : Hid (OkSym cs y) := by have := HO.out.1 pc (by have := HO.out.2; omega); rw [hy]; exact this
              have ih : (h : Int) < (N : Int) := by omega
              have ipc : (pc : Int) < (N : Int) := by omega
              clear hh hx hy hpc
              by_cases hlk : keyOf cs y - keyOf cs x < 0
              · have dlk : decide (keyOf cs y - keyOf cs x < 0) = true := decide_eq_true hlk
                go_upto_region 35 with fail
                go_quiet ((go_at_call 30; exact Calls.quiet_of (cmp_any cs ca cc gc g y x _ (HE.out.drewN _) OY.out OX.out)))
                go_wp2
                go_roundg (h - s)
                case measure => omega
                case rel => exact ⟨s, h, Nat.le_refl _, rfl, rfl, hs1, h1, by omega, ⟨HB.out.1.drewN _, HB.out.2.1, fun _ => by rw [show nn - h - 1 = pc by have := HH.out; have := HM.out; omega, ← HXX.out.1, ← HXX.out.2]; omega⟩⟩
              · have dlk : decide (keyOf cs y - keyOf cs x < 0) = false := decide_eq_false hlk
                go_upto_region 35 with fail
                go_quiet ((go_at_call 30; exact Calls.quiet_of (cmp_any cs ca cc gc g y x _ (HE.out.drewN _) OY.out OX.out)))
                go_wp2
                go_roundg (r - (h + 1))
                case measure => omega
                case rel => exact ⟨h + 1, r, Nat.le_refl _, by go_num, rfl, by omega, by omega, hr1, ⟨HB.out.1.drewN _, fun _ => by rw [Nat.add_sub_cancel, show nn - (h + 1) = pc by have := HH.out; have := HM.out; omega, ← HXX.out.1, ← HXX.out.2]; omega, HB.out.2.2⟩⟩
            · have hsr2 : s = r := by omega
              subst hsr2
              go_wp2
              go_meet
              case rel => exact ⟨s, rfl, hs1, hr1, HB⟩
      case rest =>
        as_aux_lemma =>
          obtain ⟨s, rfl, hs1, hs2, HB⟩ := hcut
          obtain ⟨e, he⟩ : ∃ e, e = nn - s := ⟨_, rfl⟩
          have ee : (nn : Int) - (s : Int) = (e : Int) := by have := B.out; have := HM.out; omega
          have HEe : Hid (e = nn - s) := he
          have hem : m ≤ e := by have := B.out; have := HM.out; omega
          have heb : e ≤ b := by have := B.out; have := HM.out; omega
          clear he
          have HSP : Hid (∀ X1 : List Int, (∀ i, X1.getD i 0 = Srt.rotR (fun u => X.getD u 0) s m e i) → Srt.Srtd (keyOf cs) X1 a s ∧ Srt.Srtd (keyOf cs) X1 s mid ∧ Srt.Srtd (keyOf cs) X1 mid e ∧ Srt.Srtd (keyOf cs) X1 e b ∧ ∀ i j, a ≤ i → i < mid → mid ≤ j → j < b → keyOf cs (X1.getD i 0) ≤ keyOf cs (X1.getD j 0)) := by
            intro X1 hX1
            have bo := B.out
            have mo := HM.out
            refine Srt.sym_split HSS.out.1 HSS.out.2 (by omega) (by omega) (by omega) (by rw [HEe.out]; omega) heb (by omega) ?_ ?_ hX1
            · by_cases c : lo < s
              · exact .inr (.inr (by rw [HEe.out]; exact HB.out.2.1 c))
              · rcases bo.2.2.2.2.2.2.2.1 with h | h
                · exact .inl (by omega)
                · exact .inr (.inl (by rw [HEe.out]; omega))
            · by_cases c : s < hi
              · exact .inr (.inr (by rw [HEe.out]; exact HB.out.2.2 c))
              · rcases bo.2.2.2.2.2.2.2.2 with h | h
                · exact .inl (by omega)
                · exact .inr (.inl (by omega))
          have hsm : s ≤ m := by have := B.out; omega
          have hsd : s ≤ mid := by have := B.out; omega
          have has : a ≤ s := by have := B.out; omega
          have had : a < mid := B.out.2.2.2.2.2.1
          have hdb : mid < b := B.out.2.2.2.2.2.2.1
          have hde : mid ≤ e := by have := HEe.out; have := HM.out; omega
          have HBo : Hid (SSt cs ca cc gc g N w a b X X wc) := HB.out.1
          clear HB HSS
          obtain ⟨w1, hw1⟩ : ∃ w1, w1 = wc := ⟨_, rfl⟩
          subst hw1
          go_upto_region 39 with fail
          go_cut [185] (fun t wx => wx = w1 ∧ ∃ bb : Bool, t = .bool bb ∧ (bb = true → s < m ∧ m < e) ∧ (bb = false → s = m ∨ m = e))
          case first =>
            as_aux_lemma =>
              by_cases c1 : s < m
              · by_cases c2 : m < e
                · go_wp2
                  go_meet
                  case rel => exact ⟨rfl, _, rfl, fun _ => ⟨c1, c2⟩, fun h => by first | (simp at h; done) | (simp at h; omega)⟩
                · go_wp2
                  go_meet
                  case rel => exact ⟨rfl, _, rfl, fun h => by first | (simp at h; done) | (simp at h; omega), fun h => by omega⟩
              · go_wp2
                go_meet
                case rel => exact ⟨rfl, _, rfl, fun h => by simp at h, fun h => by omega⟩
          case rest =>
            as_aux_lemma =>
              obtain ⟨hwx, bb, rfl, hbb1, hbb2⟩ := hcut
              have hwx' := hwx.symm
              subst hwx'
              go_upto_if 185 with fail
              go_cut [] (fun wx => ∃ X1, (∀ i, X1.getD i 0 = Srt.rotR (fun u => X.getD u 0) s m e i) ∧ SSt cs ca cc gc g N w a b X X1 wx)
              case first =>
                as_aux_lemma =>
                  cases bb with
                  | false =>
                    have hid := hbb2 rfl
                    clear hbb1 hbb2
                    go_wp2
                    go_meet
                    case rel => exact ⟨X, fun i => (rot_id (fun u => X.getD u 0) s m e i hid hsm hem).symm, HBo.out⟩
                  | true =>
                    have hyes := hbb1 rfl
                    clear hbb1 hbb2
                    go_wp2_with fail
                    refine (rotate_any g N c s m e X _ w1 HBo.out.row HO.out.2 hyes.1 hyes.2 (by omega) hN2).mono ?_
                    rintro e9 w2 ⟨rfl, X1, d1, hX1, hr1, hk1⟩
                    go_wp2
                    go_meet
                    case rel => exact ⟨X1, hX1, HBo.out.step d1 has heb (by omega) hr1 hk1⟩
              case rest =>
                as_aux_lemma =>
                  obtain ⟨X1, hX1, hst1⟩ := hcut
                  have H1 : Hid (SSt cs ca cc gc g N w a b X X1 wc) := hst1
                  have HS1 : Hid (Srt.Srtd (keyOf cs) X1 a s ∧ Srt.Srtd (keyOf cs) X1 s mid ∧ Srt.Srtd (keyOf cs) X1 mid e ∧ Srt.Srtd (keyOf cs) X1 e b ∧ ∀ i j, a ≤ i → i < mid → mid ≤ j → j < b → keyOf cs (X1.getD i 0) ≤ keyOf cs (X1.getD j 0)) := HSP.out X1 hX1
                  clear hX1 hst1 HSP HBo hbb1 hbb2
                  obtain ⟨w2, hw2⟩ : ∃ w2, w2 = wc := ⟨_, rfl⟩
                  subst hw2
                  go_upto_region 41 with fail
                  go_cut [199] (fun t wx => wx = w2 ∧ ∃ bb : Bool, t = .bool bb ∧ (bb = true → a < s ∧ s < mid) ∧ (bb = false → a = s ∨ s = mid))
                  case first =>
                    as_aux_lemma =>
                      by_cases c1 : a < s
                      · by_cases c2 : s < mid
                        · go_wp2
                          go_meet
                          case rel => exact ⟨rfl, _, rfl, fun _ => ⟨c1, c2⟩, fun h => by first | (simp at h; done) | (simp at h; omega)⟩
                        · go_wp2
                          go_meet
                          case rel => exact ⟨rfl, _, rfl, fun h => by first | (simp at h; done) | (simp at h; omega), fun h => by omega⟩
                      · go_wp2
                        go_meet
                        case rel => exact ⟨rfl, _, rfl, fun h => by simp at h, fun h => by omega⟩
                  case rest =>
                    as_aux_lemma =>
                      obtain ⟨hwx, bb, rfl, hbb1, hbb2⟩ := hcut
                      have hwx' := hwx.symm
                      subst hwx'
                      go_upto_if 199 with fail
                      go_cut [] (fun wx => ∃ X2, Srt.Dealt a mid X1 X2 ∧ Srt.Srtd (keyOf cs) X2 a mid ∧ SSt cs ca cc gc g N w a b X X2 wx)
                      case first =>
                        as_aux_lemma =>
                          cases bb with
                          | false =>
                            have hid := hbb2 rfl
                            clear hbb1 hbb2
                            go_wp2
                            go_meet
                            case rel => exact ⟨X1, Srt.Dealt.refl _ _ _, by rcases hid with h | h; rw [h]; exact HS1.out.2.1; rw [← h]; exact HS1.out.1, H1.out⟩
                          | true =>
                            have hyes := hbb1 rfl
                            clear hbb1 hbb2
                            go_wp2_with fail
                            refine (HIH.out a s mid X1 w2 (by omega) hyes.1 hyes.2 (by omega) H1.out.row H1.out.env H1.out.ok H1.out.len HS1.out.1 HS1.out.2.1).mono ?_
                            rintro e9 w3 ⟨rfl, X2, d2, hX2, hr2, hk2⟩
                            go_wp2
                            go_meet
                            case rel => exact ⟨X2, d2, hX2, H1.out.step d2 (Nat.le_refl _) (by omega) (by omega) hr2 hk2⟩
                      case rest =>
                        as_aux_lemma =>
                          obtain ⟨X2, hd2, hS2, hst2⟩ := hcut
                          have H2 : Hid (SSt cs ca cc gc g N w a b X X2 wc) := hst2
                          have HS2 : Hid (Srt.Dealt a mid X1 X2 ∧ Srt.Srtd (keyOf cs) X2 a mid ∧ Srt.Srtd (keyOf cs) X2 mid e ∧ Srt.Srtd (keyOf cs) X2 e b) := ⟨hd2, hS2, HS1.out.2.2.1.congr (fun i i1 i2 => hd2.out i (.inr i1)), HS1.out.2.2.2.1.congr (fun i i1 i2 => hd2.out i (.inr (by omega)))⟩
                          clear hd2 hS2 hst2 hbb1 hbb2
                          by_cases c1 : mid < e
                          · by_cases c2 : e < b
                            · go_wp2_with fail
                              refine (HIH.out mid e b X2 wc (by omega) c1 c2 hbN H2.out.row H2.out.env H2.out.ok H2.out.len HS2.out.2.2.1 HS2.out.2.2.2).mono ?_
                              rintro e9 w3 ⟨rfl, X3, d3, hX3, hr3, hk3⟩
                              go_wp2
                              go_end0
                              have st3 := H2.out.step d3 (show a ≤ mid by omega) (Nat.le_refl _) hbN hr3 hk3
                              exact ⟨rfl, X3, st3.dealt, Srt.sym_join HS1.out.2.2.2.2 HS2.out.1 HS2.out.2.1 d3 hX3, st3.row, st3.keep⟩
                            · have heb2 : e = b := by omega
                              go_wp2
                              go_end0
                              exact ⟨rfl, X2, H2.out.dealt, Srt.sym_join HS1.out.2.2.2.2 HS2.out.1 HS2.out.2.1 (Srt.Dealt.refl _ _ _) (by rw [← heb2]; exact HS2.out.2.2.1), H2.out.row, H2.out.keep⟩
                          · have heb2 : mid = e := by omega
                            have HEB : Hid (mid = e) := heb2
                            clear heb2
                            go_wp2
                            go_end0
                            exact ⟨rfl, X2, H2.out.dealt, Srt.sym_join HS1.out.2.2.2.2 HS2.out.1 HS2.out.2.1 (Srt.Dealt.refl _ _ _) (by rw [HEB.out]; exact HS2.out.2.2.2), H2.out.row, H2.out.keep⟩
end Go.Proofs.Qxb6604297a
