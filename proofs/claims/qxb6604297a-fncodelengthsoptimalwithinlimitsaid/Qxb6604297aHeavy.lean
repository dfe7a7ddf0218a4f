/-
  The walks of ZZcodeLengths (11) and of FnCodeLengthsHeavierNeverLonger (4).
-/
import Derived.Test.Qxb6604297aCLaw
import Derived.Test.Qxb6604297aCLDom
set_option linter.unusedVariables false
namespace Go.Proofs.Qxb6604297a
open Go.ChangeShapes Go.WideShapes Go.ChangeAt Go.RowKit

set_option maxHeartbeats 1000000 in
theorem zzcl_any (cs : List Int) (ca : Option Addr) (cc lim : Nat) (w : World) (hc : Reads w .i64 ca cs) (hN : cs.length ≤ 4096) (hl1 : 1 ≤ lim) (hl2 : lim ≤ 65536)
    (hs : tot cs cs.length ≤ 1125899906842624) (hk : 2 ≤ (scan cs cs.length).length → (scan cs cs.length).length ≤ 2 ^ lim) :
    Calls Try.prog 11 #[.slice ca cs.length cc, .int .i64 lim] w (CLPost cs lim w) := by
  have H := codeLengths_any cs ca cc lim w hc hN hl1 hl2 hs hk
  clear hs hk
  go_enter Try.func11, Try.ntmps11
  go_wp2_with (go_at_call 25; refine H.mono ?_; rintro e w' ⟨gL, L, rfl, h1, h2, h3, h4⟩)
  go_ret
  exact ⟨gL, L, rfl, h1, h2, h3, h4⟩

/-- What the loops of the law read. -/
structure HvSt (w wx : World) (a : Option Addr) (cs : List Int) (gL : Nat) (L : List Int) : Prop where
  rd : Reads wx .i64 a cs
  row : Row wx gL 5 .u8 L
  bel : Below w.heap.size w wx
theorem HvSt.drewN {w wx : World} {a : Option Addr} {cs : List Int} {gL : Nat} {L : List Int} (h : HvSt w wx a cs gL L) (q : Nat) : HvSt w (wx.drewN q) a cs gL L :=
  ⟨fun i hi => h.rd i hi, h.row.drewN q, ⟨h.bel.os, h.bel.tape, h.bel.output, h.bel.size, h.bel.block⟩⟩

set_option maxRecDepth 100000 in
set_option maxHeartbeats 4000000 in
theorem heavyLaw (ca : Option Addr) (cc : Nat) (cs : List Int) (x : Int) (w : World) (hc : Reads w .i64 ca cs) :
    Calls Try.prog 4 #[.slice ca cs.length cc, .int .i64 x] w fun e w' => e = .returned (.bool true) ∧ Below w.heap.size w w' := by
  by_cases h0 : cs.length ≤ 4096
  · have d0 : decide ((4096 : Int) < (cs.length : Int)) = false := decide_eq_false (by omega)
    by_cases h1 : x < 1
    · have d1 : decide (x < 1) = true := decide_eq_true h1
      go_enter Try.func4, Try.ntmps4
      go_wp2_with (go_at_call 15; refine (bytes15 _ _ _ _ _).mono ?_; rintro e w' ⟨b, rfl, rfl⟩; cases b)
      all_goals (go_ret; exact ⟨rfl, Below.refl _ _⟩)
    · have d1 : decide (x < 1) = false := decide_eq_false h1
      by_cases h2 : 65536 < x
      · have d2 : decide (65536 < x) = true := decide_eq_true h2
        go_enter Try.func4, Try.ntmps4
        go_wp2_with (go_at_call 15; refine (bytes15 _ _ _ _ _).mono ?_; rintro e w' ⟨b, rfl, rfl⟩; cases b)
        all_goals (go_ret; exact ⟨rfl, Below.refl _ _⟩)
      · obtain ⟨lim, rfl⟩ : ∃ lim : Nat, x = (lim : Int) := ⟨x.toNat, by omega⟩
        have hl1 : 1 ≤ lim := by omega
        have hl2 : lim ≤ 65536 := by omega
        clear h1 h2 d1
        go_enter Try.func4, Try.ntmps4
        go_upto_if 15 with (go_at_call 15; refine (bytes15 _ _ _ _ _).mono ?_; rintro e w' ⟨b, rfl, rfl⟩)
        cases b with
        | false =>
          go_wp2
          go_ret
          exact ⟨rfl, Below.refl _ _⟩
        | true =>
          have HD := clDom_any cs ca cc lim w hc h0 hl1 hl2
          have HC : Hid (Reads w .i64 ca cs) := hc
          clear hc
          go_upto_if 28 with (go_at_call 9; refine HD.mono ?_; rintro e w' ⟨b, rfl, rfl, hb⟩)
          clear HD
          cases b with
          | false =>
            go_wp2
            go_ret
            exact ⟨rfl, Below.refl _ _⟩
          | true =>
            have HB : Hid (tot cs cs.length ≤ 1125899906842624 ∧ (2 ≤ (scan cs cs.length).length → (scan cs cs.length).length ≤ 2 ^ lim)) := hb rfl
            clear hb
            have hmk := fun (w : World) => make_ints 22 3 .i64 8 Try.underlying22 Try.info3 (by decide) cs.length cs.length (Nat.le_refl _) (by omega) w
            have hneq := fun (w : World) => run_neq_slice_nil_any (P := Try.prog) w 22 3 ca cs.length cc 0 0 Try.underlying22
            go_upto_if 30 with fail
            go_cut [0] (fun t wx => ∃ a c', t = .slice a cs.length c' ∧ Hid (Reads wx .i64 a cs ∧ Below w.heap.size w wx))
            case first =>
              cases ca with
              | none =>
                go_wp2
                go_meet
                case rel => exact ⟨_, _, rfl, HC.out, Below.refl _ _⟩
              | some ad =>
                go_wp2_with (refine wpList_copy_row _ (.tmp 34) (.tmp 35) 22 3 .i64 8 Try.underlying22 Try.info3 rfl rfl w.heap.size cs.length cs.length cc _ (List.replicate cs.length 0) cs rfl rfl (zrow_row _ _ _ _) (by simp) rfl (HC.out.of_below ((Below.refl _ _).alloc (Nat.le_refl _) _)) ?_; intro w2 hrow hgr hsz)
                go_meet
                case rel => exact ⟨_, _, rfl, hrow.reads, ((Below.refl _ _).alloc (Nat.le_refl _) _).grown hgr (by simp) (fun k hk => by cases hk; exact Nat.le_refl _)⟩
            case rest =>
              obtain ⟨a, c', rfl, HR⟩ := hcut
              obtain ⟨w1, hw1⟩ : ∃ w1, w1 = wc := ⟨_, rfl⟩
              subst hw1
              clear hmk hneq
              have HCALL := zzcl_any cs a c' lim w1 HR.out.1 h0 hl1 hl2 HB.out.1 HB.out.2
              go_wp2_with (go_at_call 11; refine HCALL.mono ?_; rintro e w2 ⟨gL, L, rfl, h3, h4, h5, h6⟩)
              have HL : Hid (Lens cs lim L ∧ L.length = cs.length) := ⟨lens_of h5 hl1 HB.out.2, h5.len⟩
              have HS : Hid (HvSt w w2 a cs gL L) := ⟨HR.out.1.of_below h6, h3, HR.out.2.trans (h6.mono HR.out.2.size)⟩
              clear h3 h4 h5 h6 HCALL HB HR HC
              go_loopg [48] cs.length (fun k t wx => ∃ i : Nat, cs.length - i ≤ k ∧ t = .int .i64 i ∧ i ≤ cs.length ∧ Hid (HvSt w wx a cs gL L))
              case atStart => exact ⟨0, by omega, rfl, by omega, HS⟩
              case round =>
                obtain ⟨i, hk, rfl, hi, HX⟩ := hrel
                obtain ⟨wi, hwi⟩ : ∃ wi, wi = wr := ⟨_, rfl⟩
                subst hwi
                by_cases hin : i < cs.length
                · have hci : (i : Int) < (cs.length : Int) := by omega
                  obtain ⟨cb, co, rfl⟩ := HX.out.rd.addr (by omega)
                  have q1 := (HX.out.rd.at hin).2
                  have q2 := HX.out.row.cell (i := i) (by rw [HL.out.2]; exact hin)
                  obtain ⟨y, hy⟩ : ∃ y, y = cs.getD i 0 := ⟨_, rfl⟩
                  obtain ⟨l, hl⟩ : ∃ l, l = L.getD i 0 := ⟨_, rfl⟩
                  rw [← hy] at q1
                  rw [← hl] at q2
                  have HY : Hid (y = cs.getD i 0 ∧ l = L.getD i 0) := ⟨hy, hl⟩
                  clear hy hl
                  by_cases hp : y ≤ 0
                  · have dp : decide (y ≤ 0) = true := decide_eq_true hp
                    have e0 : l = 0 := by rw [HY.out.2]; exact HL.out.1.off i hin (by have := HY.out.1; omega)
                    rw [e0] at q2
                    clear e0
                    go_wp2
                    go_roundg (cs.length - (i + 1))
                    case measure => omega
                    case rel => exact ⟨i + 1, Nat.le_refl _, by simp, by omega, HX⟩
                  · have dp : decide (y ≤ 0) = false := decide_eq_false hp
                    have hb : 1 ≤ l ∧ l ≤ (lim : Int) ∧ l ≤ 101 := by rw [HY.out.2]; exact HL.out.1.on i hin (by have := HY.out.1; omega)
                    obtain ⟨hb1, hb2, hb3⟩ := hb
                    have d1 : decide (l < 1) = false := decide_eq_false (by omega)
                    have d2 : decide ((lim : Int) < l) = false := decide_eq_false (by omega)
                    go_wp2
                    go_loopg [71] cs.length (fun k t wx => ∃ j : Nat, cs.length - j ≤ k ∧ t = .int .i64 j ∧ j ≤ cs.length ∧ Hid (HvSt w wx (some ⟨cb, co, none⟩) cs gL L))
                    case atStart => exact ⟨0, by omega, rfl, by omega, HX⟩
                    case round =>
                      obtain ⟨j, hkj, rfl, hj, HX2⟩ := hrel
                      by_cases hjn : j < cs.length
                      · have hcj : (j : Int) < (cs.length : Int) := by omega
                        have q1 := (HX2.out.rd.at hjn).2
                        have q2 := HX2.out.row.cell (i := j) (by rw [HL.out.2]; exact hjn)
                        have q3 := HX2.out.row.cell (i := i) (by rw [HL.out.2]; exact hin)
                        rw [← HY.out.2] at q3
                        obtain ⟨z, hz⟩ : ∃ z, z = cs.getD j 0 := ⟨_, rfl⟩
                        obtain ⟨l2, hl2'⟩ : ∃ l2, l2 = L.getD j 0 := ⟨_, rfl⟩
                        rw [← hz] at q1
                        rw [← hl2'] at q2
                        have HZ : Hid (z = cs.getD j 0 ∧ l2 = L.getD j 0) := ⟨hz, hl2'⟩
                        clear hz hl2'
                        by_cases hz0 : 0 < z
                        · have e1 : decide (0 < z) = true := decide_eq_true hz0
                          by_cases hzy : z < y
                          · have e2 : decide (z < y) = true := decide_eq_true hzy
                            have hle : l ≤ l2 := by
                              rw [HY.out.2, HZ.out.2]
                              exact HL.out.1.heavy i j hin hjn (by have := HZ.out.1; omega) (by have := HZ.out.1; have := HY.out.1; omega)
                            have e3 : decide (l2 < l) = false := decide_eq_false (by omega)
                            clear hle hzy hz0
                            go_wp2
                            go_quiet (fail)
                            go_wp2
                            go_roundg (cs.length - (j + 1))
                            case measure => omega
                            case rel => exact ⟨j + 1, Nat.le_refl _, by simp, by omega, HX2.out.drewN _⟩
                          · have e2 : decide (z < y) = false := decide_eq_false hzy
                            clear hzy hz0
                            go_wp2
                            go_quiet (fail)
                            go_wp2
                            go_roundg (cs.length - (j + 1))
                            case measure => omega
                            case rel => exact ⟨j + 1, Nat.le_refl _, by simp, by omega, HX2.out.drewN _⟩
                        · have e1 : decide (0 < z) = false := decide_eq_false hz0
                          clear hz0
                          go_wp2
                          go_quiet (fail)
                          go_wp2
                          go_roundg (cs.length - (j + 1))
                          case measure => omega
                          case rel => exact ⟨j + 1, Nat.le_refl _, by simp, by omega, HX2.out.drewN _⟩
                      · go_wp2
                        go_roundg (cs.length - (i + 1))
                        case measure => omega
                        case rel => exact ⟨i + 1, Nat.le_refl _, by simp, by omega, HX2⟩
                · go_wp2
                  go_ret
                  exact ⟨rfl, HX.out.bel⟩
  · have d0 : decide ((4096 : Int) < (cs.length : Int)) = true := decide_eq_true (by omega)
    go_enter Try.func4, Try.ntmps4
    go_wp2_with (go_at_call 15; refine (bytes15 _ _ _ _ _).mono ?_; rintro e w' ⟨b, rfl, rfl⟩; cases b)
    all_goals (go_ret; exact ⟨rfl, Below.refl _ _⟩)
end Go.Proofs.Qxb6604297a
