/-
  The walk of FnCodeLengthsOptimalWithinLimit (3).
-/
import Derived.Test.Qxb6604297aLimP
import Derived.Test.Qxb6604297aOptC
import Derived.Test.Qxb6604297aComplete
import Derived.Test.Qxb6604297aHeavy
set_option linter.unusedVariables false
namespace Go.Proofs.Qxb6604297a
open Go.ChangeShapes Go.WideShapes Go.ChangeAt Go.RowKit

theorem made_own (w : World) {B : Nat} (n : Nat) (hB : B ≤ w.heap.size) (hn : n ≤ 1048576) : Owns (w.alloc (.cells (zrow .i64 n) 2)) B 2 .i64 (.slice (some ⟨w.heap.size, 0, none⟩) 0 n) [] :=
  World.ownsRow_made (base := B) (e := 2) (size := 1) w (zrow .i64 n) n hB (by unfold maxLen; omega) (by simp [zrow])
theorem owns_prow {w : World} {B : Nat} {v : Value} {xs : List Int} (h : Owns w B 2 .i64 v xs) (hx : 0 < xs.length) : ∃ g c, v = .slice (some ⟨g, 0, none⟩) xs.length c ∧ PRow w g xs ∧ B ≤ g := by
  rcases h.2 with ⟨_, h2⟩ | ⟨g, cap, cur, hv, hb, hg, hnc, hcm, hcs, htake⟩
  · omega
  · refine ⟨g, cap, hv, ⟨cur.toList.drop (xs.length * 1), ?_⟩, hb⟩
    unfold Blk
    rw [← htake, List.take_append_drop, Array.toArray_toList]
    exact hg

set_option maxRecDepth 100000 in
set_option maxHeartbeats 4000000 in
theorem limLaw (ca : Option Addr) (cc : Nat) (cs : List Int) (x : Int) (w : World) (hc : Reads w .i64 ca cs) :
    Calls Try.prog 3 #[.slice ca cs.length cc, .int .i64 x] w fun e w' => e = .returned (.bool true) ∧ Below w.heap.size w w' := by
  by_cases h0 : cs.length ≤ 512
  · have d0 : decide ((512 : Int) < (cs.length : Int)) = false := decide_eq_false (by omega)
    by_cases h1 : x < 1
    · have d1 : decide (x < 1) = true := decide_eq_true h1
      go_enter Try.func3, Try.ntmps3
      go_wp2_with (go_at_call 8; refine (bytes8 _ _ _ _ _).mono ?_; rintro e w' ⟨b, rfl, rfl⟩; cases b)
      all_goals (go_ret; exact ⟨rfl, Below.refl _ _⟩)
    · have d1 : decide (x < 1) = false := decide_eq_false h1
      by_cases h2 : 65536 < x
      · have d2 : decide (65536 < x) = true := decide_eq_true h2
        go_enter Try.func3, Try.ntmps3
        go_wp2_with (go_at_call 8; refine (bytes8 _ _ _ _ _).mono ?_; rintro e w' ⟨b, rfl, rfl⟩; cases b)
        all_goals (go_ret; exact ⟨rfl, Below.refl _ _⟩)
      · obtain ⟨lim, rfl⟩ : ∃ lim : Nat, x = (lim : Int) := ⟨x.toNat, by omega⟩
        have hl1 : 1 ≤ lim := by omega
        have hl2 : lim ≤ 65536 := by omega
        clear h1 h2 d1
        go_enter Try.func3, Try.ntmps3
        go_upto_if 20 with (go_at_call 8; refine (bytes8 _ _ _ _ _).mono ?_; rintro e w' ⟨b, rfl, rfl⟩)
        cases b with
        | false =>
          go_wp2
          go_ret
          exact ⟨rfl, Below.refl _ _⟩
        | true =>
          have HD := clDom_any cs ca cc lim w hc (by omega) hl1 hl2
          have HC : Hid (Reads w .i64 ca cs) := hc
          clear hc
          go_upto_if 33 with (go_at_call 9; refine HD.mono ?_; rintro e w' ⟨b, rfl, rfl, hb⟩)
          clear HD
          cases b with
          | false =>
            go_wp2
            go_ret
            exact ⟨rfl, Below.refl _ _⟩
          | true =>
            have HB : Hid (tot cs cs.length ≤ 1125899906842624 ∧ (2 ≤ (scan cs cs.length).length → (scan cs cs.length).length ≤ 2 ^ lim)) := hb rfl
            clear hb
            have hmk := fun (w : World) => make_ints 22 3 .i64 8 Try.underlying22 Try.info3 (by decide) cs.length cs.length (Nat.le_refl _) (by omega) w
            have hneq := fun (w : World) => run_neq_slice_nil_any (P := Try.prog) w 22 3 ca cs.length cc 0 0 Try.underlying22
            go_upto_if 35 with fail
            go_cut [0] (fun t wx => ∃ a c', t = .slice a cs.length c' ∧ Hid (Reads wx .i64 a cs ∧ Below w.heap.size w wx))
            case first =>
              cases ca with
              | none =>
                go_wp2
                go_meet
                case rel => exact ⟨_, _, rfl, HC.out, Below.refl _ _⟩
              | some ad =>
                go_wp2_with (refine wpList_copy_row _ (.tmp 39) (.tmp 40) 22 3 .i64 8 Try.underlying22 Try.info3 rfl rfl w.heap.size cs.length cs.length cc _ (List.replicate cs.length 0) cs rfl rfl (zrow_row _ _ _ _) (by simp) rfl (HC.out.of_below ((Below.refl _ _).alloc (Nat.le_refl _) _)) ?_; intro w2 hrow hgr hsz)
                go_meet
                case rel => exact ⟨_, _, rfl, hrow.reads, ((Below.refl _ _).alloc (Nat.le_refl _) _).grown hgr (by simp) (fun k hk => by cases hk; exact Nat.le_refl _)⟩
            case rest =>
              obtain ⟨a, c', rfl, HR⟩ := hcut
              obtain ⟨w1, hw1⟩ : ∃ w1, w1 = wc := ⟨_, rfl⟩
              subst hw1
              clear hmk hneq
              have HSC := scan_fit cs a c' w1 HR.out.1 (by omega) HB.out.1
              have HCALL := zzcl_any cs a c' lim w1 HR.out.1 (by omega) hl1 hl2 HB.out.1 HB.out.2
              go_upto_block 0 with (first | (go_at_call 10; refine HSC.mono ?_; rintro e w2 ⟨tt, rfl, rfl⟩) | (go_at_call 11; refine HCALL.mono ?_; rintro e w2 ⟨gL, L, rfl, h3, h4, h5, h6⟩))
              obtain ⟨m, hm⟩ : ∃ m, m = (scan cs cs.length).length := ⟨_, rfl⟩
              rw [← hm]
              have HM : Hid (m = (scan cs cs.length).length) := hm
              have hm2 : m ≤ 512 := by have := scan_len cs cs.length; omega
              have HL : Hid (CLen cs lim L) := h5
              have HLn : Hid (Lens cs lim L ∧ L.length = cs.length) := ⟨lens_of h5 hl1 HB.out.2, h5.len⟩
              have HS : Hid (HvSt w w2 a cs gL L) := ⟨HR.out.1.of_below h6, h3, HR.out.2.trans (h6.mono HR.out.2.size)⟩
              clear h3 h4 h5 h6 HCALL HSC hm HR
              go_cut [59] (fun _ wx => w2 = wx)
              case first =>
                as_aux_lemma =>
                go_wp2
                go_loopg [59] cs.length (fun k t wx => ∃ i : Nat, cs.length - i ≤ k ∧ t = .int .i64 i ∧ i ≤ cs.length ∧ w2 = wx)
                case atStart => exact ⟨0, by omega, rfl, by omega, rfl⟩
                case round =>
                  obtain ⟨i, hk, rfl, hi, hw⟩ := hrel
                  have hw' := hw.symm
                  subst hw'
                  by_cases hin : i < cs.length
                  · have hci : (i : Int) < (cs.length : Int) := by omega
                    obtain ⟨cb, co, rfl⟩ := HS.out.rd.addr (by omega)
                    have q1 := (HS.out.rd.at hin).2
                    have q2 := HS.out.row.cell (i := i) (by rw [HLn.out.2]; exact hin)
                    obtain ⟨y, hy⟩ : ∃ y, y = cs.getD i 0 := ⟨_, rfl⟩
                    obtain ⟨l, hl⟩ : ∃ l, l = L.getD i 0 := ⟨_, rfl⟩
                    rw [← hy] at q1
                    rw [← hl] at q2
                    have HY : Hid (y = cs.getD i 0 ∧ l = L.getD i 0) := ⟨hy, hl⟩
                    clear hy hl
                    by_cases hp : y ≤ 0
                    · have dp : decide (y ≤ 0) = true := decide_eq_true hp
                      have e0 : l = 0 := by rw [HY.out.2]; exact HLn.out.1.off i hin (by have := HY.out.1; omega)
                      rw [e0] at q2
                      clear e0
                      go_wp2
                      go_roundg (cs.length - (i + 1))
                      case measure => omega
                      case rel => exact ⟨i + 1, Nat.le_refl _, by simp, by omega, rfl⟩
                    · have dp : decide (y ≤ 0) = false := decide_eq_false hp
                      have hb : 1 ≤ l ∧ l ≤ (lim : Int) ∧ l ≤ 101 := by rw [HY.out.2]; exact HLn.out.1.on i hin (by have := HY.out.1; omega)
                      obtain ⟨hb1, hb2, hb3⟩ := hb
                      have d1 : decide (l < 1) = false := decide_eq_false (by omega)
                      have d2 : decide ((lim : Int) < l) = false := decide_eq_false (by omega)
                      by_cases hm1 : m = 1
                      · have dm : ((m : Int) == 1) = true := beq_iff_eq.2 (by omega)
                        have el : l = 1 := by rw [HY.out.2]; exact HL.out.one (by rw [← HM.out]; exact hm1) i hin (by have := HY.out.1; omega)
                        rw [el] at q2
                        clear el d1 d2 hb1 hb2 hb3 hm1
                        have d2 : decide ((lim : Int) < 1) = false := decide_eq_false (by omega)
                        go_wp2
                        go_roundg (cs.length - (i + 1))
                        case measure => omega
                        case rel => exact ⟨i + 1, Nat.le_refl _, by simp, by omega, rfl⟩
                      · have dm : ((m : Int) == 1) = false := beq_eq_false_iff_ne.2 (by omega)
                        clear hm1
                        go_wp2
                        go_roundg (cs.length - (i + 1))
                        case measure => omega
                        case rel => exact ⟨i + 1, Nat.le_refl _, by simp, by omega, rfl⟩
                  · go_wp2
                    go_meet
                    case rel => rfl
              case rest =>
                have hw := hcut.symm
                subst hw
                by_cases h2m : m < 2
                · have d1 : decide ((m : Int) < 2) = true := decide_eq_true (by omega)
                  go_wp2
                  go_ret
                  exact ⟨rfl, HS.out.bel⟩
                · have d1 : decide ((m : Int) < 2) = false := decide_eq_false (by omega)
                  have h2' : 2 ≤ m := by omega
                  obtain ⟨pm, C, R, A, hF⟩ := lim_facts HL.out hl1 HB.out.2 HB.out.1 (by rw [← HM.out]; omega)
                  have HF : Hid (LimFacts cs L lim m pm C R A) := by have e := HM.out; rw [e]; exact hF
                  clear hF
                  have HK : Calls Try.prog 12 #[.slice (some ⟨gL, 0, none⟩) cs.length cs.length] wc fun e w' => e = .returned (.bool true) ∧ Below wc.heap.size wc w' := by
                    have h := complete_any L (some ⟨gL, 0, none⟩) cs.length wc HS.out.row.reads (by rw [HLn.out.2]; omega) (fun i hi => by
                      rw [HLn.out.2] at hi
                      by_cases c : 0 < cs.getD i 0
                      · have := HLn.out.1.on i hi c; omega
                      · have := HLn.out.1.off i hi (by omega); omega) HF.out.kraft
                    rw [HLn.out.2] at h
                    exact h
                  have hmk : ∀ w : World, (Instr.makeSlice 29 (.int .i64 0) (.int .i64 (m : Int))).run Try.prog w = .ok (.slice (some ⟨w.heap.size, 0, none⟩) 0 m) (w.alloc (.cells (zrow .i64 m) 2)) := fun w => make_ints 29 2 .i64 8 Try.underlying29 Try.info2 (by decide) 0 m (Nat.zero_le _) (by omega) w
                  go_upto_block 2 with (go_at_call 12; refine HK.mono ?_; rintro e w3 ⟨rfl, hb3⟩)
                  have HS3 : Hid (HvSt w w3 a cs gL L ∧ gL < w3.heap.size) :=
                    ⟨⟨HS.out.rd.of_below hb3, HS.out.row.below hb3 HS.out.row.lt, HS.out.bel.trans (hb3.mono HS.out.bel.size)⟩, Nat.lt_of_lt_of_le HS.out.row.lt hb3.size⟩
                  clear hmk HK hb3 d1 h2m
                  go_cut [13, 14] (fun v t wx => ∃ xx : Int, t = .int .i64 xx ∧ Hid (xx = csum cs L cs.length ∧ Owns wx w3.heap.size 2 .i64 v (posl cs cs.length) ∧ Below w3.heap.size w3 wx))
                  case first =>
                    as_aux_lemma =>
                    go_wp2
                    go_loopg [13, 14, 96] cs.length (fun k v t s wx => ∃ (i : Nat) (xx : Int), cs.length - i ≤ k ∧ s = .int .i64 i ∧ i ≤ cs.length ∧ t = .int .i64 xx ∧ 0 ≤ xx ∧ xx ≤ 113715890591105024 ∧ Hid (xx = csum cs L i ∧ Owns wx w3.heap.size 2 .i64 v (posl cs i) ∧ Below w3.heap.size w3 wx))
                    case atStart => exact ⟨0, 0, by omega, rfl, by omega, rfl, by omega, by omega, rfl, made_own w3 m (Nat.le_refl _) (by omega), (Below.refl _ _).alloc (Nat.le_refl _) _⟩
                    case round =>
                      obtain ⟨i, xx, hk, rfl, hi, rfl, hx0, hx1, HI⟩ := hrel
                      by_cases hin : i < cs.length
                      · have hci : (i : Int) < (cs.length : Int) := by omega
                        have hS4 : Reads wr .i64 a cs := HS3.out.1.rd.of_below HI.out.2.2
                        obtain ⟨cb, co, rfl⟩ := hS4.addr (by omega)
                        have q1 := (hS4.at hin).2
                        have q2 : wr.cell? ⟨gL, i, none⟩ = some (.int .u8 (L.getD i 0)) := Row.cell (HS3.out.1.row.below HI.out.2.2 HS3.out.2) (by rw [HLn.out.2]; exact hin)
                        obtain ⟨y, hy⟩ : ∃ y, y = cs.getD i 0 := ⟨_, rfl⟩
                        obtain ⟨l, hl⟩ : ∃ l, l = L.getD i 0 := ⟨_, rfl⟩
                        rw [← hy] at q1
                        rw [← hl] at q2
                        have HY : Hid (y = cs.getD i 0 ∧ l = L.getD i 0) := ⟨hy, hl⟩
                        have hB : w3.heap.size ≤ wr.heap.size := HI.out.2.2.size
                        clear hy hl hS4
                        by_cases hp : 0 < y
                        · have dp : decide (0 < y) = true := decide_eq_true hp
                          have hb : 1 ≤ l ∧ l ≤ (lim : Int) ∧ l ≤ 101 := by rw [HY.out.2]; exact HLn.out.1.on i hin (by have := HY.out.1; omega)
                          obtain ⟨hb1, hb2, hb3⟩ := hb
                          obtain ⟨p, hpe⟩ : ∃ p, y * l = p := ⟨_, rfl⟩
                          have hp0 : 0 ≤ p := by rw [← hpe]; exact Int.mul_nonneg (by omega) (by omega)
                          have HCS : Hid (xx + p = csum cs L (i + 1)) := by
                            have e1 := HI.out.1
                            have e2 := HY.out.1
                            have e3 := HY.out.2
                            show xx + p = csum cs L (i + 1)
                            rw [e1, ← hpe, e2, e3]
                            unfold csum
                            rw [Huff.sumF_succ, if_pos (by rw [← e2]; exact hp)]
                          have hsum : xx + p ≤ 113715890591105024 := by
                            have h1 := (csum_bound (cs := cs) (L := L) (n := cs.length) (fun s hs hp => by have := HLn.out.1.on s hs hp; omega) (i + 1) (by omega)).2
                            have h2 := tot_mono cs (show i + 1 ≤ cs.length by omega)
                            have h3 := HB.out.1
                            have h4 := HCS.out
                            omega
                          have HPE : Hid (y * l = p) := hpe
                          have HLe : Hid ((posl cs i).length ≤ 1099511627776) := by have h1 := scan_len cs i; show (posl cs i).length ≤ _; rw [posl_len]; omega
                          have HFAR : Hid (∀ w5, wr.grownBy w5 u13.ownBlock → w5.cell? ⟨gL, i, none⟩ = some (.int .u8 l)) := fun w5 hg =>
                            (hg.cell_far ⟨gL, i, none⟩ (show gL < wr.heap.size by have := HS3.out.2; omega) (fun e => by have := (HI.out.2.1.lt gL e.symm).1; have := HS3.out.2; omega)).trans q2
                          go_wp2_with (at_builtin; refine wpList_push w3.heap.size _ (.tmp 103) (.tmp 105) 29 2 .i64 8 Try.underlying29 Try.info2 (by decide) rfl rfl _ _ _ rfl HI.out.2.1 _ rfl rfl HLe.out hB ?_; intro v1 w5 hp1 hgr1 hfr1; have q5 := HFAR.out w5 hgr1)
                          go_roundg (cs.length - (i + 1))
                          case measure => omega
                          case rel =>
                            refine ⟨i + 1, xx + p, Nat.le_refl _, by simp, by omega, by simp, by omega, hsum, HCS.out, ?_, HI.out.2.2.grown hgr1 hB (fun k hk => (HI.out.2.1.lt k hk).1)⟩
                            have e : posl cs (i + 1) = posl cs i ++ [y] := by have e2 := HY.out.1; simp only [posl]; rw [if_pos (by rw [← e2]; exact hp), ← e2]
                            rw [e]
                            exact hp1
                        · have dp : decide (0 < y) = false := decide_eq_false hp
                          go_wp2
                          go_roundg (cs.length - (i + 1))
                          case measure => omega
                          case rel =>
                            have e2 := HY.out.1
                            have e3 : posl cs (i + 1) = posl cs i := by simp only [posl]; rw [if_neg (by omega)]
                            have e4 : csum cs L (i + 1) = csum cs L i := by unfold csum; rw [Huff.sumF_succ, if_neg (by omega), Int.add_zero]
                            refine ⟨i + 1, xx, Nat.le_refl _, by simp, by omega, rfl, hx0, hx1, ?_⟩
                            rw [e3, e4]
                            exact HI
                      · go_wp2
                        go_meet
                        case rel =>
                          have e : i = cs.length := by omega
                          rw [e] at HI
                          exact ⟨xx, rfl, HI⟩
                  case rest =>
                    obtain ⟨xx, rfl, HX⟩ := hcut
                    have hlen : (posl cs cs.length).length = m := by rw [posl_len, ← HM.out]
                    obtain ⟨g, c2, hv, hPr, hBg⟩ := owns_prow HX.out.2.1 (by omega)
                    rw [hlen] at hv
                    subst hv
                    have HSO := sortDesc_any (posl cs cs.length) g m c2 wc hPr hlen (by omega)
                    have HPR : Hid ((posl cs cs.length).length = m ∧ w3.heap.size ≤ g) := ⟨hlen, hBg⟩
                    clear hlen hPr hBg
                    go_wp2_with fail
                    refine HSO.mono ?_
                    rintro e w6 ⟨rfl, Y, hD, hP6, hK6⟩
                    have HOC := optCost_any Y (some ⟨g, 0, none⟩) c2 m lim pm C R A w6 hP6.reads (by rw [hD.len, HPR.out.1]) h2' hm2 hl1 hl2 ⟨HF.out.pos, HF.out.sum, HF.out.desc Y hD, HF.out.path, HF.out.fit⟩
                    have HW : Hid (Below w.heap.size w w6) := by
                      have b1 := HS3.out.1.bel
                      have b2 := HX.out.2.2
                      have b3 := HPR.out.2
                      have b4 := b1.size
                      have b5 := b2.size
                      exact (b1.trans (b2.mono b4)).trans (hK6.below (fun k hk e => by omega) (by omega))
                    clear hD hP6 hK6 HSO
                    go_wp2_with fail
                    refine HOC.mono ?_
                    rintro e w7 ⟨best, X, rfl, hLv, hb7⟩
                    have hbest : best = xx := by
                      have h1 := DP.Lv.best (L := lim) HF.out.pos HF.out.path hLv (by have := HF.out.path.short (by omega); have := HF.out.fit; omega) (by omega) (by
                        have h2 := HF.out.sum
                        have h3 := HF.out.deep
                        have h4 := PM.pre_mono HF.out.pos (Nat.zero_le m) (Nat.le_refl _)
                        have h5 : (pm : Int) * Huff.sumF C m ≤ 101 * Huff.sumF C m := Int.mul_le_mul_of_nonneg_right (by omega) h4
                        unfold DP.INF
                        omega) HF.out.least
                      rw [h1, ← HF.out.cost]
                      exact HX.out.1.symm
                    subst hbest
                    clear HOC hLv
                    go_wp2
                    go_ret
                    exact ⟨by simp, HW.out.trans (hb7.mono HW.out.size)⟩
  · have d0 : decide ((512 : Int) < (cs.length : Int)) = true := decide_eq_true (by omega)
    go_enter Try.func3, Try.ntmps3
    go_wp2_with (go_at_call 8; refine (bytes8 _ _ _ _ _).mono ?_; rintro e w' ⟨b, rfl, rfl⟩; cases b)
    all_goals (go_ret; exact ⟨rfl, Below.refl _ _⟩)
end Go.Proofs.Qxb6604297a
