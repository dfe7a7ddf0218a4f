/-
  The walk of zzOptimalLimitedCost (14).
-/
import Derived.Test.Qxb6604297aSortD
import Derived.Test.Qxb6604297aDPl
set_option linter.unusedVariables false
namespace Go.Proofs.Qxb6604297a
open Go.ChangeShapes Go.WideShapes Go.ChangeAt Go.RowKit
open Huff (sumF sumF_succ sumF_congr)

/-- What the dynamic program is told. -/
structure OIn (n m lim : Nat) (C : Nat → Int) (R A : Nat → Nat) (Y : List Int) : Prop where
  pos : ∀ i, i < n → 1 ≤ C i
  sum : sumF C n ≤ 1125899906842624
  desc : ∀ q, q < n → Y.getD q 0 = C (n - 1 - q)
  path : DP.Path n m R A
  fit : m ≤ lim

def OPost (n m lim : Nat) (C : Nat → Int) (R A : Nat → Nat) (w : World) (e : Ending) (w' : World) : Prop :=
  ∃ (best : Int) (X : List Int), e = .returned (.int .i64 best) ∧ DP.Lv n C m R A (min (n - 1) lim) X best ∧ Below w.heap.size w w'

/-- The suffix sums. -/
structure Suf (n : Nat) (C : Nat → Int) (S : List Int) (q : Nat) : Prop where
  len : S.length = n + 1
  at_ : ∀ p, q ≤ p → p ≤ n → S.getD p 0 = sumF C (n - p)
theorem Suf.start (n : Nat) (C : Nat → Int) : Suf n C (List.replicate (n + 1) 0) n :=
  ⟨by simp, fun p h1 h2 => by
    have e : p = n := by omega
    rw [e, Nat.sub_self]
    simp [List.getD_eq_getElem?_getD, sumF]⟩
theorem Suf.step {n m lim : Nat} {C : Nat → Int} {R A : Nat → Nat} {Y S : List Int} {q : Nat} (hO : OIn n m lim C R A Y) (h : Suf n C S (q + 1)) (hq : q < n) : Suf n C (S.set q (S.getD (q + 1) 0 + Y.getD q 0)) q := by
  have hl : q < S.length := by rw [h.len]; omega
  refine ⟨by rw [List.length_set]; exact h.len, ?_⟩
  intro p h1 h2
  rw [Huff.getD_set _ _ _ _ hl]
  by_cases e : p = q
  · rw [if_pos e, h.at_ (q + 1) (Nat.le_refl _) (by omega), hO.desc q hq, e, show n - q = n - (q + 1) + 1 by omega, sumF_succ, show n - 1 - q = n - (q + 1) by omega]
  · rw [if_neg e]
    exact h.at_ p (by omega) h2
theorem OIn.pre {n m lim : Nat} {C : Nat → Int} {R A : Nat → Nat} {Y : List Int} (hO : OIn n m lim C R A Y) {q : Nat} (hq : q ≤ n) : 0 ≤ sumF C q ∧ sumF C q ≤ 1125899906842624 := by
  have h1 := PM.pre_mono hO.pos (Nat.zero_le q) hq
  have h2 := PM.pre_mono hO.pos hq (Nat.le_refl _)
  have h3 := hO.sum
  exact ⟨h1, by omega⟩

theorem oin_mul {n m lim : Nat} {C : Nat → Int} {R A : Nat → Nat} {Y : List Int} (hO : OIn n m lim C R A Y) {d : Nat} (hd : d ≤ 511) : (d : Int) * sumF C n ≤ 575334852396580864 := by
  have h1 := hO.sum
  have h2 := (hO.pre (Nat.le_refl n)).1
  have h3 : (d : Int) * sumF C n ≤ 511 * sumF C n := Int.mul_le_mul_of_nonneg_right (by omega) h2
  omega
theorem oin_val {n m lim : Nat} {C : Nat → Int} {R A : Nat → Nat} {Y : List Int} (hO : OIn n m lim C R A Y) {d i a : Nat} {v : Int} (hg : DP.Good n C d i a v) (hd : d ≤ 511) : 0 ≤ v ∧ v ≤ 575334852396580864 := by
  have h1 := DP.good_val hO.pos hg
  have h2 := oin_mul hO hd
  omega
theorem oin_top {n m lim : Nat} {C : Nat → Int} {R A : Nat → Nat} {Y : List Int} (hO : OIn n m lim C R A Y) {e : Nat} (hd : e + 1 ≤ 511) : ((e + 1 : Nat) : Int) * sumF C n ≤ DP.INF := by
  have h2 := oin_mul hO hd
  unfold DP.INF
  omega
theorem oin_lt {n m lim : Nat} {C : Nat → Int} {R A : Nat → Nat} {Y : List Int} (hO : OIn n m lim C R A Y) {e : Nat} (hd : e + 1 ≤ 511) : ((e : Int) + 1) * sumF C n < DP.INF := by
  have h2 := oin_mul hO hd
  rw [show ((e + 1 : Nat) : Int) = (e : Int) + 1 by omega] at h2
  unfold DP.INF
  omega

/-- A row whose first k are INF. -/
structure Full (X : List Int) (N k : Nat) : Prop where
  len : X.length = N
  at_ : ∀ i, i < k → X.getD i 0 = DP.INF
theorem Full.step {X : List Int} {N k : Nat} (h : Full X N k) (hk : k < N) : Full (X.set k DP.INF) N (k + 1) := by
  refine ⟨by rw [List.length_set]; exact h.len, fun i hi => ?_⟩
  rw [Huff.getD_set _ _ _ _ (by rw [h.len]; exact hk)]
  by_cases e : i = k
  · rw [if_pos e]
  · rw [if_neg e]; exact h.at_ i (by omega)

/-- The three rows. -/
structure OSt (w wx : World) (gX gN n : Nat) (S X N : List Int) : Prop where
  s : Row wx w.heap.size 2 .i64 S
  x : Row wx gX 2 .i64 X
  n : Row wx gN 2 .i64 N
  bel : Below w.heap.size w wx
theorem OSt.setX {w wx : World} {gX gN n : Nat} {S X N : List Int} (h : OSt w wx gX gN n S X N) (h1 : w.heap.size < gX) (h2 : gX ≠ gN) (k : Nat) (v : Int) : OSt w (wx.setCell ⟨gX, k, none⟩ (.int .i64 v)) gX gN n S (X.set k v) N :=
  ⟨h.s.set_other (show w.heap.size ≠ gX by omega) _, h.x.set k v, h.n.set_other (show gN ≠ gX from fun e => h2 e.symm) _, h.bel.setCell (show w.heap.size ≤ gX by omega) _⟩
theorem OSt.setN {w wx : World} {gX gN n : Nat} {S X N : List Int} (h : OSt w wx gX gN n S X N) (h1 : w.heap.size < gN) (h2 : gX ≠ gN) (k : Nat) (v : Int) : OSt w (wx.setCell ⟨gN, k, none⟩ (.int .i64 v)) gX gN n S X (N.set k v) :=
  ⟨h.s.set_other (show w.heap.size ≠ gN by omega) _, h.x.set_other (show gX ≠ gN from h2) _, h.n.set k v, h.bel.setCell (show w.heap.size ≤ gN by omega) _⟩

theorem ost_start {w w1 : World} {S : List Int} (n : Nat) (hs : Row w1 w.heap.size 2 .i64 S) (hb : Below w.heap.size w w1) (sz : Nat) :
    OSt w ((w1.alloc (.cells (zrow .i64 sz) 2)).alloc (.cells (zrow .i64 sz) 2)) w1.heap.size (w1.heap.size + 1) n S (List.replicate sz 0) (List.replicate sz 0) := by
  have h := zrow_row (w1.alloc (.cells (zrow .i64 sz) 2)) .i64 2 sz
  have e : (w1.alloc (.cells (zrow .i64 sz) 2)).heap.size = w1.heap.size + 1 := by simp
  rw [e] at h
  exact ⟨(hs.alloc _).alloc _, (zrow_row w1 .i64 2 sz).alloc _, h, (hb.alloc hb.size _).alloc (by simp; have := hb.size; omega) _⟩

set_option maxRecDepth 100000 in
set_option maxHeartbeats 4000000 in
theorem optCost_any (Y : List Int) (a : Option Addr) (c n lim m : Nat) (C : Nat → Int) (R A : Nat → Nat) (w : World) (hR : Reads w .i64 a Y) (hl : Y.length = n) (hn1 : 2 ≤ n) (hn2 : n ≤ 512) (hl1 : 1 ≤ lim) (hl2 : lim ≤ 65536) (hO : Hid (OIn n m lim C R A Y)) :
    Calls Try.prog 14 #[.slice a n c, .int .i64 lim] w (OPost n m lim C R A w) := by
  obtain ⟨yb, yo, rfl⟩ := hR.addr (by omega)
  have HR : Hid (Reads w .i64 (some ⟨yb, yo, none⟩) Y ∧ Y.length = n) := ⟨hR, hl⟩
  clear hR hl
  have hmk : ∀ w : World, (Instr.makeSlice 29 (.int .i64 ((n : Int) + 1)) (.int .i64 ((n : Int) + 1))).run Try.prog w = .ok (.slice (some ⟨w.heap.size, 0, none⟩) (n + 1) (n + 1)) (w.alloc (.cells (zrow .i64 (n + 1)) 2)) := fun w => by
    have h := make_ints 29 2 .i64 8 Try.underlying29 Try.info2 (by decide) (n + 1) (n + 1) (Nat.le_refl _) (by omega) w
    rw [show ((n + 1 : Nat) : Int) = (n : Int) + 1 by omega] at h
    exact h
  go_enter Try.func14, Try.ntmps14
  go_upto_block 0 with fail
  go_cut [7] (fun _ wx => Hid (∃ S, Suf n C S 0 ∧ Row wx w.heap.size 2 .i64 S ∧ Below w.heap.size w wx ∧ wx.heap.size = w.heap.size + 1))
  case first =>
    as_aux_lemma =>
    go_wp2
    go_loopg [7] n (fun k t wx => ∃ q : Nat, q ≤ k ∧ t = .int .i64 ((q : Int) - 1) ∧ q ≤ n ∧ Hid (∃ S, Suf n C S q ∧ Row wx w.heap.size 2 .i64 S ∧ Below w.heap.size w wx ∧ wx.heap.size = w.heap.size + 1))
    case atStart => exact ⟨n, Nat.le_refl _, rfl, Nat.le_refl _, _, Suf.start n C, zrow_row w .i64 2 (n + 1), (Below.refl _ _).alloc (Nat.le_refl _) _, by simp⟩
    case round =>
      obtain ⟨q, hkq, rfl, hq, HQ⟩ := hrel
      clear hmk
      cases q with
      | zero =>
        go_wp2
        go_meet
        case rel => exact HQ
      | succ q =>
        have i0 : ((q + 1 : Nat) : Int) - 1 = (q : Int) := by omega
        rw [i0]
        obtain ⟨S, h1, h2, h3, h4⟩ := HQ.out
        have hlen := h1.len
        have q1 : wr.cell? ⟨yb, yo + q, none⟩ = some (.int .i64 (Y.getD q 0)) := by
          have := HR.out.1.at (i := q) (by rw [HR.out.2]; omega)
          rw [h3.cell (by exact this.1), this.2]
        have q2 := h2.cell (i := q + 1) (by omega)
        have q3 := h2.cell (i := q) (by omega)
        have q4 := h2.frozen q
        have b1 := hO.out.pre (q := n - (q + 1)) (by omega)
        have b2 := hO.out.pos (n - 1 - q) (by omega)
        have b3 := hO.out.pre (q := n - q) (by omega)
        obtain ⟨x, hx⟩ : ∃ x, x = S.getD (q + 1) 0 := ⟨_, rfl⟩
        obtain ⟨y, hy⟩ : ∃ y, y = Y.getD q 0 := ⟨_, rfl⟩
        have hx' : x = sumF C (n - (q + 1)) := by rw [hx]; exact h1.at_ (q + 1) (Nat.le_refl _) (by omega)
        have hy' : y = C (n - 1 - q) := by rw [hy]; exact hO.out.desc q (by omega)
        rw [← hx'] at b1
        rw [← hy'] at b2
        have b4 : x + y ≤ 1125899906842624 := by
          have e : n - q = (n - (q + 1)) + 1 := by omega
          rw [e, sumF_succ, ← hx', show n - (q + 1) = n - 1 - q by omega, ← hy'] at b3
          exact b3.2
        rw [← hx] at q2
        rw [← hy] at q1
        have HS : Hid (Suf n C S (q + 1) ∧ Row wr w.heap.size 2 .i64 S ∧ Below w.heap.size w wr ∧ wr.heap.size = w.heap.size + 1 ∧ x = S.getD (q + 1) 0 ∧ y = Y.getD q 0) := ⟨h1, h2, h3, h4, hx, hy⟩
        clear h1 h2 h3 h4 hx hy hx' hy' b3 hlen HQ
        have i1 : (q : Int) < (n : Int) := by omega
        have i2 : (q : Int) < (n : Int) + 1 := by omega
        have i3 : (q : Int) + 1 < (n : Int) + 1 := by omega
        go_wp2
        go_region
        go_wp2
        go_roundg q
        case measure => omega
        case rel =>
          refine ⟨q, Nat.le_refl _, by simp, by omega, S.set q (x + y), ?_, HS.out.2.1.set q (x + y), ?_, ?_⟩
          · have e1 := HS.out.2.2.2.2.1
            have e2 := HS.out.2.2.2.2.2
            rw [e1, e2]
            exact Suf.step hO.out HS.out.1 (by omega)
          · have hb := HS.out.2.2.1.setCell (p := ⟨w.heap.size, q, none⟩) (Nat.le_refl _) (.int .i64 (x + y))
            exact ⟨hb.os, hb.tape, hb.output, hb.size, hb.block⟩
          · have := HS.out.2.2.2.1
            simp [World.setCell]
            exact this
  case rest =>
    obtain ⟨S, hS1, hS2, hS3, hS4⟩ := hcut.out
    clear hcut hmk
    obtain ⟨w1, hw1⟩ : ∃ w1, w1 = wc := ⟨_, rfl⟩
    subst hw1
    have HS : Hid (Suf n C S 0 ∧ Row w1 w.heap.size 2 .i64 S ∧ Below w.heap.size w w1 ∧ w1.heap.size = w.heap.size + 1) := ⟨hS1, hS2, hS3, hS4⟩
    clear hS1 hS2 hS3 hS4
    obtain ⟨dp, hdp⟩ : ∃ dp, dp = min (n - 1) lim := ⟨_, rfl⟩
    have HDP : Hid (dp = min (n - 1) lim) := hdp
    have hdp1 : 1 ≤ dp := by omega
    have hdp2 : dp ≤ 511 := by omega
    go_upto_if 53 with fail
    go_cut [8] (fun t wx => w1 = wx ∧ t = .int .i64 dp)
    case first =>
      by_cases hx : lim < n - 1
      · have d1 : decide ((lim : Int) < (n : Int) - 1) = true := decide_eq_true (by omega)
        have HE : Hid (dp = lim) := by show dp = lim; omega
        clear hdp
        go_wp2
        go_meet
        case rel => exact ⟨rfl, by have e := HE.out; rw [e]⟩
      · have d1 : decide ((lim : Int) < (n : Int) - 1) = false := decide_eq_false (by omega)
        have HE : Hid ((n : Int) - 1 = (dp : Int)) := by show (n : Int) - 1 = (dp : Int); omega
        clear hdp
        go_wp2
        go_meet
        case rel => exact ⟨rfl, by have e := HE.out; rw [e]⟩
    case rest =>
      obtain ⟨hwx, rfl⟩ := hcut
      have h' := hwx.symm
      subst h'
      clear hdp
      obtain ⟨sz, hsz⟩ : ∃ sz, sz = (n + 1) * (n + 1) := ⟨_, rfl⟩
      have HSZ : Hid (sz = (n + 1) * (n + 1)) := hsz
      have hsz1 : ((n : Int) + 1) * ((n : Int) + 1) = (sz : Int) := by rw [hsz]; simp
      have hsz2 : sz ≤ 263169 := by
        rw [hsz]
        have : (n + 1) * (n + 1) ≤ 513 * 513 := Nat.mul_le_mul (by omega) (by omega)
        omega
      have hsz3 : 9 ≤ sz := by
        rw [hsz]
        have : 3 * 3 ≤ (n + 1) * (n + 1) := Nat.mul_le_mul (by omega) (by omega)
        omega
      clear hsz
      have hmk := fun (w : World) => make_ints 29 2 .i64 8 Try.underlying29 Try.info2 (by decide) sz sz (Nat.le_refl _) (by omega) w
      go_upto_block 2 with fail
      have hgt : w.heap.size < wc.heap.size := by have := HS.out.2.2.2; omega
      obtain ⟨w2, hw2⟩ : ∃ w2, w2 = (wc.alloc (Obj.cells (zrow IntKind.i64 sz) 2)).alloc (Obj.cells (zrow IntKind.i64 sz) 2) := ⟨_, rfl⟩
      have HO2 : Hid (OSt w w2 wc.heap.size (wc.heap.size + 1) n S (List.replicate sz 0) (List.replicate sz 0)) := by rw [hw2]; exact ost_start n HS.out.2.1 HS.out.2.2.1 sz
      have HSF : Hid (Suf n C S 0) := HS.out.1
      rw [← hw2]
      clear hw2 HS hmk
      obtain ⟨gX0, hgX0⟩ : ∃ gX0, gX0 = wc.heap.size := ⟨_, rfl⟩
      rw [← hgX0] at HO2 hgt ⊢
      clear hgX0
      go_cut [12] (fun _ wx => Hid (∃ X, Full X sz sz ∧ OSt w wx gX0 (gX0 + 1) n S X (List.replicate sz 0)))
      case first =>
        as_aux_lemma =>
        go_wp2
        go_loopg [12] sz (fun k t wx => ∃ i : Nat, sz - i ≤ k ∧ t = .int .i64 i ∧ i ≤ sz ∧ Hid (∃ X, Full X sz i ∧ OSt w wx gX0 (gX0 + 1) n S X (List.replicate sz 0)))
        case atStart => exact ⟨0, by omega, rfl, by omega, _, ⟨by simp, fun i hi => by omega⟩, HO2.out⟩
        case round =>
          obtain ⟨i, hk, rfl, hi, HI⟩ := hrel
          by_cases hin : i < sz
          · have hci : (i : Int) < (sz : Int) := by omega
            obtain ⟨X, hF, hOS⟩ := HI.out
            have q1 := hOS.x.cell (i := i) (by rw [hF.len]; exact hin)
            have q2 := hOS.x.frozen i
            have HX : Hid (Full X sz i ∧ OSt w wr gX0 (gX0 + 1) n S X (List.replicate sz 0)) := ⟨hF, hOS⟩
            clear hF hOS HI
            go_wp2
            go_roundg (sz - (i + 1))
            case measure => omega
            case rel => exact ⟨i + 1, Nat.le_refl _, by simp, by omega, X.set i DP.INF, HX.out.1.step hin, HX.out.2.setX hgt (by omega) i DP.INF⟩
          · go_wp2
            go_meet
            case rel =>
              have e : i = sz := by omega
              rw [e] at HI
              exact HI
      case rest =>
        obtain ⟨X, hF, hOS⟩ := hcut.out
        have q1 := hOS.x.cell (i := 1) (by rw [hF.len]; omega)
        have q2 := hOS.x.frozen 1
        have i1 : (1 : Int) < (sz : Int) := by omega
        obtain ⟨w3, hw3⟩ : ∃ w3, w3 = wc := ⟨_, rfl⟩
        subst hw3
        have HX : Hid (DP.Lv n C m R A 0 (X.set 1 0) DP.INF ∧ OSt w (w3.setCell ⟨gX0, 1, none⟩ (.int .i64 0)) gX0 (gX0 + 1) n S (X.set 1 0) (List.replicate sz 0)) := by
          refine ⟨DP.Lv.start (by omega) hO.out.path (by rw [List.length_set, hF.len]; exact HSZ.out) ?_, hOS.setX hgt (by omega) 1 0⟩
          intro k hk
          rw [Huff.getD_set _ _ _ _ (by rw [hF.len]; omega)]
          by_cases e : k = 1
          · rw [if_pos e, if_pos e]
          · rw [if_neg e, if_neg e]
            exact hF.at_ k (by have := HSZ.out; omega)
        clear hF hOS hcut HO2
        go_wp2
        go_loopg [10, 11, 13, 14] dp (fun k x nx b t wx => ∃ (e d gX gN : Nat) (X N : List Int) (best : Int), dp + 1 - d ≤ k ∧ t = .int .i64 d ∧ 1 ≤ d ∧ d ≤ dp + 1 ∧ x = .slice (some ⟨gX, 0, none⟩) sz sz ∧ nx = .slice (some ⟨gN, 0, none⟩) sz sz ∧ b = .int .i64 best ∧
          w.heap.size < gX ∧ w.heap.size < gN ∧ gX ≠ gN ∧ Hid (d = e + 1 ∧ DP.Lv n C m R A e X best ∧ OSt w wx gX gN n S X N ∧ N.length = sz))
        case atStart => exact ⟨0, 1, gX0, gX0 + 1, _, _, DP.INF, by omega, rfl, by omega, by omega, rfl, rfl, rfl, hgt, by omega, by omega, rfl, HX.out.1, HX.out.2, by simp⟩
        case round =>
          obtain ⟨e, d, gX, gN, X', N0, best, hkd, rfl, hd1, hd2, rfl, rfl, rfl, hgX, hgN, hne, HL⟩ := hrel
          clear HX q1 q2 i1
          by_cases hd : d ≤ dp
          · have hdi : (d : Int) ≤ (dp : Int) := by omega
            obtain ⟨w4, hw4⟩ : ∃ w4, w4 = wr := ⟨_, rfl⟩
            subst hw4
            have HLv : Hid (d = e + 1 ∧ DP.Lv n C m R A e X' best) := ⟨HL.out.1, HL.out.2.1⟩
            have HOS : Hid (OSt w w4 gX gN n S X' N0 ∧ N0.length = sz) := HL.out.2.2
            have hXl : X'.length = sz := by rw [HLv.out.2.tab.len]; exact HSZ.out.symm
            have HXL : Hid (X'.length = sz) := hXl
            clear hXl HL
            go_upto_block 6 with fail
            go_cut [15] (fun _ wx => Hid (∃ N, Full N sz sz ∧ OSt w wx gX gN n S X' N))
            case first =>
              as_aux_lemma =>
              go_wp2
              go_loopg [15] sz (fun k t wx => ∃ i : Nat, sz - i ≤ k ∧ t = .int .i64 i ∧ i ≤ sz ∧ Hid (∃ N, Full N sz i ∧ OSt w wx gX gN n S X' N))
              case atStart => exact ⟨0, by omega, rfl, by omega, N0, ⟨HOS.out.2, fun i hi => by omega⟩, HOS.out.1⟩
              case round =>
                obtain ⟨i, hk, rfl, hi, HI⟩ := hrel
                by_cases hin : i < sz
                · have hci : (i : Int) < (sz : Int) := by omega
                  obtain ⟨N, hF, hOS⟩ := HI.out
                  have q1 := hOS.n.cell (i := i) (by rw [hF.len]; exact hin)
                  have q2 := hOS.n.frozen i
                  have HX : Hid (Full N sz i ∧ OSt w wr gX gN n S X' N) := ⟨hF, hOS⟩
                  clear hF hOS HI
                  go_wp2
                  go_roundg (sz - (i + 1))
                  case measure => omega
                  case rel => exact ⟨i + 1, Nat.le_refl _, by simp, by omega, N.set i DP.INF, HX.out.1.step hin, HX.out.2.setN hgN hne i DP.INF⟩
                · go_wp2
                  go_meet
                  case rel =>
                    have e : i = sz := by omega
                    rw [e] at HI
                    exact HI
            case rest =>
              have HF := hcut
              clear hcut HOS
              obtain ⟨w5, hw5⟩ : ∃ w5, w5 = wc := ⟨_, rfl⟩
              subst hw5
              go_upto_block 8 with fail
              go_cut [16] (fun _ wx => Hid (∃ N, DP.Down n C e X' N n 1 ∧ OSt w wx gX gN n S X' N))
              case first =>
                as_aux_lemma =>
                go_wp2
                go_loopg [16] n (fun k t wx => ∃ i : Nat, n - i ≤ k ∧ t = .int .i64 i ∧ i ≤ n ∧ Hid (∃ N, DP.Down n C e X' N i 1 ∧ OSt w wx gX gN n S X' N))
                case atStart =>
                  obtain ⟨N, hF, hOS⟩ := HF.out
                  exact ⟨0, by omega, rfl, by omega, N, DP.Down.start X' (by rw [hF.len]; exact HSZ.out) (fun k hk => hF.at_ k (by have := HSZ.out; omega)), hOS⟩
                case round =>
                  obtain ⟨i, hki, rfl, hi, HI⟩ := hrel
                  by_cases hin : i < n
                  · have hci : (i : Int) < (n : Int) := by omega
                    go_wp2
                    go_loopg [17] n (fun k t wx => ∃ a : Nat, n + 1 - a ≤ k ∧ t = .int .i64 a ∧ 1 ≤ a ∧ a ≤ n - i + 1 ∧ Hid (∃ N, DP.Down n C e X' N i a ∧ OSt w wx gX gN n S X' N))
                    case atStart => exact ⟨1, by omega, rfl, by omega, by omega, HI⟩
                    case round =>
                      obtain ⟨a, hka, rfl, ha1, ha2, HA⟩ := hrel
                      by_cases han : a ≤ n - i
                      · have hai : (a : Int) ≤ (n : Int) - (i : Int) := by omega
                        obtain ⟨N, hD, hOS⟩ := HA.out
                        obtain ⟨ri, hri⟩ : ∃ ri, ri = i * (n + 1) := ⟨_, rfl⟩
                        have hri1 : (i : Int) * ((n : Int) + 1) = (ri : Int) := by rw [hri]; simp
                        have hlt1 : ri + a < sz := by
                          have h1 := DP.ix_lt (n := n) (i := i) (a := a) (by omega) (by omega)
                          unfold DP.ix at h1
                          have := HSZ.out
                          omega
                        have HRI : Hid (ri = i * (n + 1)) := hri
                        have hix : DP.ix n i a = ri + a := by rw [hri]; rfl
                        have q1 := hOS.x.cell (i := ri + a) (by rw [HXL.out]; exact hlt1)
                        obtain ⟨cx, hcx⟩ : ∃ cx, cx = DP.at_ n X' i a := ⟨_, rfl⟩
                        have hcx' : X'.getD (ri + a) 0 = cx := by rw [hcx]; unfold DP.at_; rw [hix]
                        rw [hcx'] at q1
                        have HCX : Hid (cx = DP.at_ n X' i a) := hcx
                        have i1 : (ri : Int) + (a : Int) < (sz : Int) := by omega
                        have i2 : ((ri : Int) + (a : Int)).toNat = ri + a := by omega
                        have HN : Hid (DP.Down n C e X' N i a ∧ OSt w wr gX gN n S X' N) := ⟨hD, hOS⟩
                        clear hri hix hcx hcx' hD hOS HA
                        by_cases hc : cx = DP.INF
                        · have HCI : Hid (cx = DP.INF) := hc
                          have hc' : cx = 4611686018427387904 := hc
                          rw [hc'] at q1
                          clear hc hc'
                          go_wp2
                          go_roundg (n + 1 - (a + 1))
                          case measure => omega
                          case rel =>
                            have h1 := HCX.out
                            have h2 := HCI.out
                            exact ⟨a + 1, Nat.le_refl _, by simp, by omega, by omega, N, HN.out.1.skip (by rw [← h1]; exact h2), HN.out.2⟩
                        · have dc : (cx == 4611686018427387904) = false := beq_eq_false_iff_ne.2 hc
                          have HNI : Hid (cx ≠ DP.INF) := hc
                          have hbd : 0 ≤ cx ∧ cx ≤ 575334852396580864 := by
                            have hg : DP.Good n C e i a cx := by
                              rcases HLv.out.2.tab.ok i a (by omega) (by omega) with h | h
                              · exact absurd (HCX.out.trans h) hc
                              · rw [HCX.out]; exact h
                            exact oin_val hO.out hg (by have := HLv.out.1; omega)
                          obtain ⟨hbd1, hbd2⟩ := hbd
                          have q2 := HN.out.2.s.cell (i := i) (by have := HSF.out.len; omega)
                          obtain ⟨sf, hsf⟩ : ∃ sf, sf = sumF C (n - i) := ⟨_, rfl⟩
                          have hsf' : S.getD i 0 = sf := by rw [hsf]; exact HSF.out.at_ i (Nat.zero_le _) (by omega)
                          rw [hsf'] at q2
                          have hs1 := hO.out.pre (q := n - i) (by omega)
                          rw [← hsf] at hs1
                          obtain ⟨hs11, hs12⟩ := hs1
                          have HSf : Hid (sf = sumF C (n - i)) := hsf
                          obtain ⟨na, hna⟩ : ∃ na, na = min (2 * a) (n - i) := ⟨_, rfl⟩
                          have HNA : Hid (na = min (2 * a) (n - i)) := hna
                          have hna1 : na ≤ n - i := by omega
                          have hlt2 : ri + na < sz := by
                            have h1 := DP.ix_lt (n := n) (i := i) (a := na) (by omega) (by omega)
                            unfold DP.ix at h1
                            have := HSZ.out
                            have := HRI.out
                            omega
                          have q3 := HN.out.2.n.cell (i := ri + na) (by have := HN.out.1.tab.len; have := HSZ.out; omega)
                          have q4 := HN.out.2.n.frozen (ri + na)
                          obtain ⟨nv, hnv⟩ : ∃ nv, nv = N.getD (ri + na) 0 := ⟨_, rfl⟩
                          rw [← hnv] at q3
                          have HNV : Hid (nv = N.getD (ri + na) 0) := hnv
                          have i3 : (ri : Int) + (na : Int) < (sz : Int) := by omega
                          have i4 : ((ri : Int) + (na : Int)).toNat = ri + na := by omega
                          have i5 : (i : Int) < (n : Int) + 1 := by omega
                          clear hc hsf hsf' hnv
                          go_upto_if 116 with fail
                          go_cut [19] (fun t wx => wr = wx ∧ t = .int .i64 na)
                          case first =>
                            by_cases h2a : n - i < 2 * a
                            · have d3 : decide ((n : Int) - (i : Int) < 2 * (a : Int)) = true := decide_eq_true (by omega)
                              have HE : Hid ((n : Int) - (i : Int) = (na : Int)) := by show (n : Int) - (i : Int) = (na : Int); omega
                              clear hna
                              go_wp2
                              go_meet
                              case rel => exact ⟨rfl, by have e := HE.out; rw [e]⟩
                            · have d3 : decide ((n : Int) - (i : Int) < 2 * (a : Int)) = false := decide_eq_false (by omega)
                              have HE : Hid (2 * (a : Int) = (na : Int)) := by show 2 * (a : Int) = (na : Int); omega
                              clear hna
                              go_wp2
                              go_meet
                              case rel => exact ⟨rfl, by have e := HE.out; rw [e]⟩
                          case rest =>
                            obtain ⟨hwx, rfl⟩ := hcut
                            have h' := hwx.symm
                            subst h'
                            clear hna
                            have HIX : Hid (DP.ix n i na = ri + na) := by have h := HRI.out; show DP.ix n i na = ri + na; rw [h]; rfl
                            by_cases hlt : cx + sf < nv
                            · have d4 : decide (cx + sf < nv) = true := decide_eq_true hlt
                              go_wp2
                              go_roundg (n + 1 - (a + 1))
                              case measure => omega
                              case rel =>
                                have e1 := HNA.out
                                have e2 := HCX.out
                                have e3 := HSf.out
                                have e4 := HIX.out
                                have e5 := HNV.out
                                have h := HN.out.1.put HLv.out.2.tab hin han (by rw [← e2]; exact HNI.out) (by rw [← e1, ← e2, ← e3]; unfold DP.at_; rw [e4, ← e5]; exact hlt)
                                rw [← e1, ← e2, ← e3, e4] at h
                                exact ⟨a + 1, Nat.le_refl _, by simp, by omega, by omega, N.set (ri + na) (cx + sf), h, HN.out.2.setN hgN hne (ri + na) (cx + sf)⟩
                            · have d4 : decide (cx + sf < nv) = false := decide_eq_false hlt
                              go_wp2
                              go_roundg (n + 1 - (a + 1))
                              case measure => omega
                              case rel =>
                                have e1 := HNA.out
                                have e2 := HCX.out
                                have e3 := HSf.out
                                have e4 := HIX.out
                                have e5 := HNV.out
                                have h := HN.out.1.keep (by rw [← e1, ← e2, ← e3]; unfold DP.at_; rw [e4, ← e5]; omega)
                                exact ⟨a + 1, Nat.le_refl _, by simp, by omega, by omega, N, h, HN.out.2⟩
                      · have hai : decide ((a : Int) ≤ (n : Int) - (i : Int)) = false := decide_eq_false (by omega)
                        go_wp2
                        go_roundg (n - (i + 1))
                        case measure => omega
                        case rel =>
                          obtain ⟨N, hD, hOS⟩ := HA.out
                          exact ⟨i + 1, Nat.le_refl _, by simp, by omega, N, hD.row (by omega), hOS⟩
                  · go_wp2
                    go_meet
                    case rel =>
                      have e0 : i = n := by omega
                      rw [e0] at HI
                      exact HI
              case rest =>
                have HDn := hcut
                clear hcut HF
                obtain ⟨w6, hw6⟩ : ∃ w6, w6 = wc := ⟨_, rfl⟩
                subst hw6
                go_upto_block 12 with fail
                go_cut [21] (fun _ wx => Hid (∃ N, DP.Place n C e X' N n 1 ∧ OSt w wx gX gN n S X' N))
                case first =>
                  as_aux_lemma =>
                  go_wp2
                  go_loopg [21] n (fun k t wx => ∃ i : Nat, n - i ≤ k ∧ t = .int .i64 i ∧ i ≤ n ∧ Hid (∃ N, DP.Place n C e X' N i 1 ∧ OSt w wx gX gN n S X' N))
                  case atStart =>
                    obtain ⟨N, hD, hOS⟩ := HDn.out
                    exact ⟨0, by omega, rfl, by omega, N, DP.Place.start hD (Nat.le_refl _), hOS⟩
                  case round =>
                    obtain ⟨i, hki, rfl, hi, HI⟩ := hrel
                    by_cases hin : i < n
                    · have hci : (i : Int) < (n : Int) := by omega
                      go_wp2
                      go_loopg [22] n (fun k t wx => ∃ a : Nat, n + 1 - a ≤ k ∧ t = .int .i64 a ∧ 1 ≤ a ∧ a ≤ n - i + 1 ∧ Hid (∃ N, DP.Place n C e X' N i a ∧ OSt w wx gX gN n S X' N))
                      case atStart => exact ⟨1, by omega, rfl, by omega, by omega, HI⟩
                      case round =>
                        obtain ⟨a, hka, rfl, ha1, ha2, HA⟩ := hrel
                        by_cases han : a ≤ n - i
                        · have hai : (a : Int) ≤ (n : Int) - (i : Int) := by omega
                          obtain ⟨N, hD, hOS⟩ := HA.out
                          have hNl : N.length = sz := by rw [hD.tab.len]; exact HSZ.out.symm
                          obtain ⟨ri, hri⟩ : ∃ ri, ri = i * (n + 1) := ⟨_, rfl⟩
                          have hri1 : (i : Int) * ((n : Int) + 1) = (ri : Int) := by rw [hri]; simp
                          have hlt1 : ri + a < sz := by
                            have h1 := DP.ix_lt (n := n) (i := i) (a := a) (by omega) (by omega)
                            unfold DP.ix at h1
                            have := HSZ.out
                            omega
                          obtain ⟨rj, hrj⟩ : ∃ rj, rj = (i + 1) * (n + 1) := ⟨_, rfl⟩
                          have hrj1 : ((i : Int) + 1) * ((n : Int) + 1) = (rj : Int) := by rw [hrj]; simp
                          obtain ⟨kk, hkk⟩ : ∃ kk, kk = rj + (a - 1) := ⟨_, rfl⟩
                          have hlt2 : kk < sz := by
                            have h1 := DP.ix_lt (n := n) (i := i + 1) (a := a - 1) (by omega) (by omega)
                            unfold DP.ix at h1
                            have := HSZ.out
                            omega
                          have hrj2 : rj ≤ sz := by omega
                          have ik : (rj : Int) + (a : Int) - 1 = (kk : Int) := by omega
                          have HIX : Hid (DP.ix n i a = ri + a ∧ DP.ix n (i + 1) (a - 1) = kk) := ⟨by rw [hri]; rfl, by rw [hkk, hrj]; rfl⟩
                          have q1 := hOS.n.cell (i := ri + a) (by omega)
                          have q2 := hOS.n.cell (i := kk) (by omega)
                          have q3 := hOS.n.frozen kk
                          obtain ⟨cx, hcx⟩ : ∃ cx, cx = N.getD (ri + a) 0 := ⟨_, rfl⟩
                          obtain ⟨nv, hnv⟩ : ∃ nv, nv = N.getD kk 0 := ⟨_, rfl⟩
                          rw [← hcx] at q1
                          rw [← hnv] at q2
                          have HV : Hid (DP.at_ n N i a = cx ∧ DP.at_ n N (i + 1) (a - 1) = nv) := by
                            have e1 := HIX.out.1
                            have e2 := HIX.out.2
                            unfold DP.at_
                            rw [e1, e2]
                            exact ⟨hcx.symm, hnv.symm⟩
                          have i1 : (ri : Int) + (a : Int) < (sz : Int) := by omega
                          have i2 : ((ri : Int) + (a : Int)).toNat = ri + a := by omega
                          have i3 : (kk : Int) < (sz : Int) := by omega
                          have HN : Hid (DP.Place n C e X' N i a ∧ OSt w wr gX gN n S X' N) := ⟨hD, hOS⟩
                          clear hri hrj hkk hcx hnv hD hOS HA hNl
                          by_cases hc : cx = DP.INF
                          · have HCI : Hid (cx = DP.INF) := hc
                            have hc' : cx = 4611686018427387904 := hc
                            rw [hc'] at q1
                            clear hc hc'
                            go_wp2
                            go_roundg (n + 1 - (a + 1))
                            case measure => omega
                            case rel =>
                              have h1 := HV.out.1
                              have h2 := HCI.out
                              have h3 := HN.out.1.tab.le hO.out.pos (oin_top hO.out (by have := HLv.out.1; omega)) (i := i + 1) (a := a - 1) (by omega) (by omega)
                              exact ⟨a + 1, Nat.le_refl _, by simp, by omega, by omega, N, HN.out.1.keep (by rw [h1, h2]; exact h3), HN.out.2⟩
                          · have dc : (cx == 4611686018427387904) = false := beq_eq_false_iff_ne.2 hc
                            have HNI : Hid (cx ≠ DP.INF) := hc
                            clear hc
                            by_cases hlt : cx < nv
                            · have d4 : decide (cx < nv) = true := decide_eq_true hlt
                              go_wp2
                              go_roundg (n + 1 - (a + 1))
                              case measure => omega
                              case rel =>
                                have e1 := HV.out.1
                                have e2 := HV.out.2
                                have e4 := HIX.out.2
                                have h := HN.out.1.put hin ha1 han (by rw [e1]; exact HNI.out) (by rw [e1, e2]; exact hlt)
                                rw [e1, e4] at h
                                exact ⟨a + 1, Nat.le_refl _, by simp, by omega, by omega, N.set kk cx, h, HN.out.2.setN hgN hne kk cx⟩
                            · have d4 : decide (cx < nv) = false := decide_eq_false hlt
                              go_wp2
                              go_roundg (n + 1 - (a + 1))
                              case measure => omega
                              case rel =>
                                have e1 := HV.out.1
                                have e2 := HV.out.2
                                exact ⟨a + 1, Nat.le_refl _, by simp, by omega, by omega, N, HN.out.1.keep (by rw [e1, e2]; omega), HN.out.2⟩
                        · have hai : decide ((a : Int) ≤ (n : Int) - (i : Int)) = false := decide_eq_false (by omega)
                          go_wp2
                          go_roundg (n - (i + 1))
                          case measure => omega
                          case rel =>
                            obtain ⟨N, hD, hOS⟩ := HA.out
                            exact ⟨i + 1, Nat.le_refl _, by simp, by omega, N, hD.row (by omega), hOS⟩
                    · go_wp2
                      go_meet
                      case rel =>
                        have e0 : i = n := by omega
                        rw [e0] at HI
                        exact HI
                case rest =>
                  have HPl := hcut
                  clear hcut HDn
                  obtain ⟨w7, hw7⟩ : ∃ w7, w7 = wc := ⟨_, rfl⟩
                  subst hw7
                  obtain ⟨N, hD, hOS⟩ := HPl.out
                  obtain ⟨rn, hrn⟩ : ∃ rn, rn = n * (n + 1) := ⟨_, rfl⟩
                  have hrn1 : (n : Int) * ((n : Int) + 1) = (rn : Int) := by rw [hrn]; simp
                  have hlt1 : rn < sz := by
                    have h1 := DP.ix_lt (n := n) (i := n) (a := 0) (by omega) (by omega)
                    unfold DP.ix at h1
                    have := HSZ.out
                    omega
                  have hix : DP.ix n n 0 = rn := by rw [hrn]; rfl
                  have q1 := hOS.n.cell (i := rn) (by have := hD.tab.len; have := HSZ.out; omega)
                  obtain ⟨nv, hnv⟩ : ∃ nv, nv = N.getD rn 0 := ⟨_, rfl⟩
                  rw [← hnv] at q1
                  have hnv' : DP.at_ n N n 0 = nv := by unfold DP.at_; rw [hix, hnv]
                  have i1 : (rn : Int) < (sz : Int) := by omega
                  obtain ⟨b', hb'⟩ : ∃ b', b' = if nv < best then nv else best := ⟨_, rfl⟩
                  have HN : Hid (DP.Lv n C m R A (e + 1) N b' ∧ OSt w w7 gX gN n S X' N) :=
                    ⟨DP.Lv.step (by omega) hO.out.pos hO.out.path HLv.out.2 (oin_lt hO.out (by have := HLv.out.1; omega)) hD (by rw [hnv']; exact hb'), hOS⟩
                  have HB : Hid (b' = if nv < best then nv else best) := hb'
                  clear hrn hix hnv hnv' hb' hD hOS HPl
                  go_upto_if 195 with fail
                  go_cut [13] (fun t wx => w7 = wx ∧ t = .int .i64 b')
                  case first =>
                    by_cases hlt : nv < best
                    · have d4 : decide (nv < best) = true := decide_eq_true hlt
                      have HE : Hid (b' = nv) := by have h := HB.out; rw [if_pos hlt] at h; exact h
                      go_wp2
                      go_meet
                      case rel => exact ⟨rfl, by have e := HE.out; rw [e]⟩
                    · have d4 : decide (nv < best) = false := decide_eq_false hlt
                      have HE : Hid (b' = best) := by have h := HB.out; rw [if_neg hlt] at h; exact h
                      go_wp2
                      go_meet
                      case rel => exact ⟨rfl, by have e := HE.out; rw [e]⟩
                  case rest =>
                    obtain ⟨hwx, rfl⟩ := hcut
                    have h' := hwx.symm
                    subst h'
                    clear q1
                    go_wp2
                    go_roundg (dp + 1 - (d + 1))
                    case measure => omega
                    case rel => exact ⟨e + 1, d + 1, gN, gX, N, X', b', Nat.le_refl _, by simp, by omega, by omega, rfl, rfl, rfl, hgN, hgX, fun h => hne h.symm, by have := HLv.out.1; show d + 1 = e + 1 + 1; omega, HN.out.1, ⟨HN.out.2.s, HN.out.2.n, HN.out.2.x, HN.out.2.bel⟩, HXL.out⟩
          · have HE : Hid (e = min (n - 1) lim) := by have h1 := HL.out.1; have h2 := HDP.out; show e = _; omega
            go_wp2
            go_ret
            have e0 := HE.out
            refine ⟨best, X', rfl, ?_, HL.out.2.2.1.bel⟩
            rw [← e0]
            exact HL.out.2.1
end Go.Proofs.Qxb6604297a
