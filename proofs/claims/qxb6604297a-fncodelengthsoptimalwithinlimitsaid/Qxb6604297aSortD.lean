/-
  The walk of zzSortDesc (13), and of zzCountsScan (10) where the sums fit.
-/
import Derived.Test.Qxb6604297aCLDom
set_option linter.unusedVariables false
namespace Go.Proofs.Qxb6604297a
open Go.ChangeShapes Go.WideShapes Go.ChangeAt Go.RowKit
open Huff (sumF sumF_succ sumF_congr)

/-- A row of int64 at the head of a block. -/
def PRow (w : World) (g : Nat) (X : List Int) : Prop := ∃ rest : List Value, Blk w g 2 (X.map (Value.int .i64) ++ rest)
theorem PRow.lt {w : World} {g : Nat} {X : List Int} (h : PRow w g X) : g < w.heap.size := by obtain ⟨_, h⟩ := h; exact h.lt
theorem PRow.cell {w : World} {g : Nat} {X : List Int} (h : PRow w g X) {i : Nat} (hi : i < X.length) : w.cell? ⟨g, i, none⟩ = some (.int .i64 (X.getD i 0)) := by
  obtain ⟨rest, h⟩ := h
  rw [h.cell, List.getElem?_append_left (by simpa using hi)]
  simp [hi]
theorem PRow.frozen {w : World} {g : Nat} {X : List Int} (h : PRow w g X) (i : Nat) : w.frozen? ⟨g, i, none⟩ = false := by obtain ⟨_, h⟩ := h; exact h.frozen i
theorem PRow.set {w : World} {g : Nat} {X : List Int} (h : PRow w g X) {i : Nat} (hi : i < X.length) (v : Int) : PRow (w.setCell ⟨g, i, none⟩ (.int .i64 v)) g (X.set i v) := by
  obtain ⟨rest, h⟩ := h
  refine ⟨rest, ?_⟩
  have h2 := h.set i (.int .i64 v)
  rw [List.set_append_left _ _ (by simpa using hi), ← List.map_set] at h2
  exact h2
theorem PRow.reads {w : World} {g : Nat} {X : List Int} (h : PRow w g X) : Reads w .i64 (some ⟨g, 0, none⟩) X := by
  intro i hi
  exact ⟨g, 0, rfl, h.lt, by rw [Nat.zero_add]; exact h.cell hi⟩

/-! ### insertion, descending -/
def bag (f : Int → Int) (X : List Int) : Int := sumF (fun i => f (X.getD i 0)) X.length
theorem bag_set (f : Int → Int) (X : List Int) {j : Nat} (hj : j < X.length) (v : Int) : bag f (X.set j v) = bag f X - f (X.getD j 0) + f v := by
  unfold bag
  rw [List.length_set, Huff.sumF_one (h := fun i => f (X.getD i 0)) hj (fun i _ hne => by rw [Huff.getD_set _ _ _ _ hj, if_neg hne]), Huff.getD_set _ _ _ _ hj, if_pos rfl]

structure Desc (X Y : List Int) (i : Nat) : Prop where
  len : Y.length = X.length
  bag : ∀ f, bag f Y = bag f X
  desc : ∀ p q, p ≤ q → q < i → Y.getD q 0 ≤ Y.getD p 0
structure InsD (X Z : List Int) (i j : Nat) (x : Int) : Prop where
  len : Z.length = X.length
  bag : ∀ f, bag f Z - f (Z.getD j 0) + f x = bag f X
  desc : ∀ p q, p < q → q ≤ i → p ≠ j → q ≠ j → Z.getD q 0 ≤ Z.getD p 0
  low : ∀ q, j < q → q ≤ i → Z.getD q 0 < x
theorem Desc.start (X : List Int) : Desc X X 1 := by
  refine ⟨rfl, fun f => rfl, fun p q h1 h2 => ?_⟩
  have e1 : q = 0 := by omega
  have e2 : p = 0 := by omega
  rw [e1, e2]
  exact Int.le_refl _
theorem InsD.start {X Y : List Int} {i : Nat} (h : Desc X Y i) : InsD X Y i i (Y.getD i 0) :=
  ⟨h.len, fun f => by rw [h.bag f]; omega, fun p q h1 h2 h3 h4 => h.desc p q (by omega) (by omega), fun q h1 h2 => by omega⟩
theorem InsD.step {X Z : List Int} {i j : Nat} {x : Int} (h : InsD X Z i j x) (hj : 1 ≤ j) (hi : j ≤ i) (hn : i < X.length) (hlt : Z.getD (j - 1) 0 < x) : InsD X (Z.set j (Z.getD (j - 1) 0)) i (j - 1) x := by
  have hjl : j < Z.length := by rw [h.len]; omega
  have hat : ∀ k, (Z.set j (Z.getD (j - 1) 0)).getD k 0 = if k = j then Z.getD (j - 1) 0 else Z.getD k 0 := fun k => Huff.getD_set _ _ _ _ hjl
  refine ⟨by rw [List.length_set]; exact h.len, ?_, ?_, ?_⟩
  · intro f
    rw [bag_set f Z hjl, hat, if_neg (by omega)]
    have := h.bag f
    omega
  · intro p q h1 h2 h3 h4
    rw [hat, hat]
    by_cases cq : q = j
    · rw [if_pos cq, if_neg (by omega)]
      exact h.desc p (j - 1) (by omega) (by omega) (by omega) (by omega)
    · rw [if_neg cq]
      by_cases cp : p = j
      · rw [if_pos cp]
        exact h.desc (j - 1) q (by omega) h2 (by omega) cq
      · rw [if_neg cp]
        exact h.desc p q h1 h2 cp cq
  · intro q h1 h2
    rw [hat]
    by_cases cq : q = j
    · rw [if_pos cq]; exact hlt
    · rw [if_neg cq]; exact h.low q (by omega) h2
theorem InsD.stop {X Z : List Int} {i j : Nat} {x : Int} (h : InsD X Z i j x) (hi : j ≤ i) (hn : i < X.length) (hge : j = 0 ∨ x ≤ Z.getD (j - 1) 0) : Desc X (Z.set j x) (i + 1) := by
  have hjl : j < Z.length := by rw [h.len]; omega
  have hat : ∀ k, (Z.set j x).getD k 0 = if k = j then x else Z.getD k 0 := fun k => Huff.getD_set _ _ _ _ hjl
  refine ⟨by rw [List.length_set]; exact h.len, fun f => by rw [bag_set f Z hjl]; exact h.bag f, ?_⟩
  intro p q h1 h2
  rw [hat, hat]
  by_cases cpq : p = q
  · rw [cpq]; exact Int.le_refl _
  · by_cases cq : q = j
    · rw [if_pos cq, if_neg (by omega)]
      rcases hge with h0 | h0
      · omega
      · by_cases c : p = j - 1
        · rw [c]; exact h0
        · have := h.desc p (j - 1) (by omega) (by omega) (by omega) (by omega)
          omega
    · rw [if_neg cq]
      by_cases cp : p = j
      · rw [if_pos cp]
        exact Int.le_of_lt (h.low q (by omega) (by omega))
      · rw [if_neg cp]
        exact h.desc p q (by omega) (by omega) cp cq

set_option maxRecDepth 100000 in
set_option maxHeartbeats 2000000 in
theorem sortDesc_any (X : List Int) (g n c : Nat) (w : World) (hX : PRow w g X) (hl : X.length = n) (hn : n ≤ 1048576) :
    Calls Try.prog 13 #[.slice (some ⟨g, 0, none⟩) n c] w fun e w' => e = .returned (.tuple #[]) ∧ ∃ Y, Desc X Y n ∧ PRow w' g Y ∧ Keeps (fun k => k = g) w w' := by
  have HX : Hid (PRow w g X ∧ X.length = n) := ⟨hX, hl⟩
  clear hX hl
  go_enter Try.func13, Try.ntmps13
  go_wp2
  go_loopg [2] (n + 1) (fun k t wx => ∃ i : Nat, n + 1 - i ≤ k ∧ t = .int .i64 i ∧ 1 ≤ i ∧ i ≤ n + 1 ∧ Hid (∃ Y, Desc X Y i ∧ PRow wx g Y ∧ Keeps (fun k => k = g) w wx))
  case atStart => exact ⟨1, by omega, rfl, by omega, by omega, X, Desc.start X, HX.out.1, Keeps.refl _ _⟩
  case round =>
    obtain ⟨i, hk, rfl, hi1, hi2, HI⟩ := hrel
    obtain ⟨wi, hwi⟩ : ∃ wi, wi = wr := ⟨_, rfl⟩
    subst hwi
    by_cases hin : i < n
    · have hci : (i : Int) < (n : Int) := by omega
      obtain ⟨Y, hD, hP, hK⟩ := HI.out
      have q1 := hP.cell (i := i) (by rw [hD.len, HX.out.2]; exact hin)
      obtain ⟨x, hx⟩ : ∃ x, x = Y.getD i 0 := ⟨_, rfl⟩
      rw [← hx] at q1
      have HY : Hid (InsD X Y i i x ∧ PRow wi g Y ∧ Keeps (fun k => k = g) w wi) := ⟨by rw [hx]; exact InsD.start hD, hP, hK⟩
      clear hx hD hP hK HI
      go_upto_block 2 with fail
      go_cut [4] (fun t wx => ∃ j : Nat, t = .int .i64 j ∧ j ≤ i ∧ Hid (∃ Z, InsD X Z i j x ∧ PRow wx g Z ∧ Keeps (fun k => k = g) w wx ∧ (j = 0 ∨ x ≤ Z.getD (j - 1) 0)))
      case first =>
        as_aux_lemma =>
        go_wp2
        go_loopg [4] i (fun k t wx => ∃ j : Nat, j ≤ k ∧ t = .int .i64 j ∧ j ≤ i ∧ Hid (∃ Z, InsD X Z i j x ∧ PRow wx g Z ∧ Keeps (fun k => k = g) w wx))
        case atStart => exact ⟨i, Nat.le_refl _, rfl, Nat.le_refl _, Y, HY.out⟩
        case round =>
          obtain ⟨j, hkj, rfl, hj, HJ⟩ := hrel
          by_cases hj0 : 0 < j
          · have d1 : decide ((0 : Int) < (j : Int)) = true := decide_eq_true (by omega)
            obtain ⟨Z, hI, hP, hK⟩ := HJ.out
            have hZl : Z.length = n := by rw [hI.len, HX.out.2]
            have q1 := hP.cell (i := j - 1) (by omega)
            have q2 := hP.cell (i := j) (by omega)
            have q3 := hP.frozen j
            have i1 : (j : Int) - 1 = ((j - 1 : Nat) : Int) := by omega
            have i2 : ((j - 1 : Nat) : Int) < (n : Int) := by omega
            have i3 : (j : Int) < (n : Int) := by omega
            obtain ⟨j1, hj1⟩ : ∃ j1, j1 = j - 1 := ⟨_, rfl⟩
            rw [← hj1] at q1 i1 i2
            obtain ⟨y, hy⟩ : ∃ y, y = Z.getD j1 0 := ⟨_, rfl⟩
            rw [← hy] at q1
            have HZ : Hid (InsD X Z i j x ∧ PRow wr g Z ∧ Keeps (fun k => k = g) w wr ∧ j1 = j - 1 ∧ y = Z.getD j1 0 ∧ Z.length = n) := ⟨hI, hP, hK, hj1, hy, hZl⟩
            have hj1' : j1 < j := by omega
            clear hI hP hK hj1 hy hZl HJ
            by_cases hyx : y < x
            · have d2 : decide (y < x) = true := decide_eq_true hyx
              go_wp2
              go_roundg j1
              case measure => omega
              case rel =>
                refine ⟨j1, Nat.le_refl _, by simp, by omega, Z.set j y, ?_, HZ.out.2.1.set (by have := HZ.out.2.2.2.2.2; omega) y, Keeps.set (S := fun k => k = g) HZ.out.2.2.1 rfl _⟩
                have e1 := HZ.out.2.2.2.1
                have e2 := HZ.out.2.2.2.2.1
                rw [e1] at e2
                rw [e1, e2]
                exact HZ.out.1.step hj0 hj (by have := HX.out.2; omega) (by rw [← e2]; exact hyx)
            · have d2 : decide (y < x) = false := decide_eq_false hyx
              go_wp2
              go_meet
              case rel =>
                refine ⟨j, rfl, hj, Z, HZ.out.1, HZ.out.2.1, HZ.out.2.2.1, .inr ?_⟩
                have e1 := HZ.out.2.2.2.1
                have e2 := HZ.out.2.2.2.2.1
                rw [← e1, ← e2]
                omega
          · have d1 : decide ((0 : Int) < (j : Int)) = false := decide_eq_false (by omega)
            go_wp2
            go_meet
            case rel =>
              obtain ⟨Z, hI, hP, hK⟩ := HJ.out
              exact ⟨j, rfl, hj, Z, hI, hP, hK, .inl (by omega)⟩
      case rest =>
        obtain ⟨j, rfl, hj, HJ⟩ := hcut
        obtain ⟨Z, hI, hP, hK, hge⟩ := HJ.out
        have hZl : Z.length = n := by rw [hI.len, HX.out.2]
        have q2 := hP.cell (i := j) (by omega)
        have q3 := hP.frozen j
        have i3 : (j : Int) < (n : Int) := by omega
        have HZ : Hid (InsD X Z i j x ∧ PRow wc g Z ∧ Keeps (fun k => k = g) w wc ∧ (j = 0 ∨ x ≤ Z.getD (j - 1) 0) ∧ Z.length = n) := ⟨hI, hP, hK, hge, hZl⟩
        clear hI hP hK hge hZl HJ q1
        go_wp2
        go_roundg (n + 1 - (i + 1))
        case measure => omega
        case rel => exact ⟨i + 1, Nat.le_refl _, by simp, by omega, by omega, Z.set j x, HZ.out.1.stop hj (by have := HX.out.2; omega) HZ.out.2.2.2.1, HZ.out.2.1.set (by have := HZ.out.2.2.2.2; omega) x, Keeps.set (S := fun k => k = g) HZ.out.2.2.1 rfl _⟩
    · go_wp2
      go_end0
      obtain ⟨Y, hD, hP, hK⟩ := HI.out
      exact ⟨rfl, Y, ⟨hD.len, hD.bag, fun p q h1 h2 => hD.desc p q h1 (by omega)⟩, hP, hK⟩

theorem tot_mono (cs : List Int) {i j : Nat} (h : i ≤ j) : tot cs i ≤ tot cs j := by
  induction j with
  | zero => have : i = 0 := by omega
            rw [this]; exact Int.le_refl _
  | succ j ih =>
    by_cases e : i = j + 1
    · rw [e]; exact Int.le_refl _
    · have := ih (by omega)
      simp only [tot]
      split <;> omega

def FitPost (cs : List Int) (w : World) (e : Ending) (w' : World) : Prop :=
  ∃ t : Int, e = .returned (.tuple #[.int .i64 ((scan cs cs.length).length : Int), .int .i64 t, .bool true]) ∧ w = w'

set_option maxRecDepth 100000 in
set_option maxHeartbeats 1000000 in
theorem scan_fit (cs : List Int) (a : Option Addr) (c : Nat) (w : World) (hR : Reads w .i64 a cs) (hN : cs.length ≤ 1048576) (hT : Hid (tot cs cs.length ≤ 1125899906842624)) :
    Calls Try.prog 10 #[.slice a cs.length c] w (FitPost cs w) := by
  go_enter Try.func10, Try.ntmps10
  go_wp2
  go_loopg [11, 5, 6] cs.length (fun k t u s wx => ∃ (i m : Nat) (x : Int), cs.length - i ≤ k ∧ t = .int .i64 i ∧ i ≤ cs.length ∧ u = .int .i64 m ∧ s = .int .i64 x ∧ m ≤ i ∧ 0 ≤ x ∧ x ≤ 1125899906842624 ∧ w = wx ∧ Hid (m = (scan cs i).length ∧ x = tot cs i))
  case atStart => exact ⟨0, 0, 0, by omega, rfl, by omega, rfl, rfl, by omega, by omega, by omega, rfl, rfl, rfl⟩
  case round =>
    obtain ⟨i, m, x, hk, rfl, hi, rfl, rfl, hm, hx0, hx1, hw, HI⟩ := hrel
    have hw' := hw.symm
    subst hw'
    by_cases hin : i < cs.length
    · have hci : (i : Int) < (cs.length : Int) := by omega
      obtain ⟨cb, co, rfl⟩ := hR.addr (by omega)
      have q := (hR.at hin).2
      obtain ⟨y, hy⟩ : ∃ y, y = cs.getD i 0 := ⟨_, rfl⟩
      rw [← hy] at q
      have HY : Hid (y = cs.getD i 0) := hy
      clear hy
      by_cases hp : 0 < y
      · have d1 : decide (0 < y) = true := decide_eq_true hp
        have hs : x + y ≤ 1125899906842624 := by
          have h1 := tot_mono cs (show i + 1 ≤ cs.length by omega)
          have h2 := hT.out
          have h3 := HI.out.2
          have h4 := HY.out
          simp only [tot] at h1
          rw [if_pos (h4 ▸ hp)] at h1
          omega
        have d2 : decide (1125899906842624 < y) = false := decide_eq_false (by omega)
        have d3 : decide (1125899906842624 < x + y) = false := decide_eq_false (by omega)
        go_wp2
        go_roundg (cs.length - (i + 1))
        case measure => omega
        case rel =>
          have e1 := HY.out
          refine ⟨i + 1, m + 1, x + y, Nat.le_refl _, by simp, by omega, by simp, by simp, by omega, by omega, hs, rfl, ?_, ?_⟩
          · simp only [scan]
            rw [if_pos (e1 ▸ hp), List.length_append, ← HI.out.1]
            rfl
          · simp only [tot]
            rw [if_pos (e1 ▸ hp), ← HI.out.2, ← e1]
      · have d1 : decide (0 < y) = false := decide_eq_false hp
        go_wp2
        go_roundg (cs.length - (i + 1))
        case measure => omega
        case rel =>
          have e1 := HY.out
          refine ⟨i + 1, m, x, Nat.le_refl _, by simp, by omega, rfl, rfl, by omega, hx0, hx1, rfl, ?_, ?_⟩
          · simp only [scan]
            rw [if_neg (by omega)]
            exact HI.out.1
          · simp only [tot]
            rw [if_neg (by omega), Int.add_zero]
            exact HI.out.2
    · have HE : Hid (m = (scan cs cs.length).length) := by
        have e : i = cs.length := by omega
        have h1 := HI.out.1
        rw [e] at h1
        exact h1
      go_wp2
      go_ret3
      have e := HE.out
      exact ⟨x, by rw [← e]; rfl, rfl⟩
end Go.Proofs.Qxb6604297a
