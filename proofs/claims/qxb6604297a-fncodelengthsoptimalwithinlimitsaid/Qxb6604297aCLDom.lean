/-
  The small functions on the roads of the two laws on codeLengths: 8, 9, 10, 15.
-/
import Derived.Test.Qxb6604297aScan
import Derived.Test.Qxb6604297aHuffDom
import Derived.OwnWalk
set_option linter.unusedVariables false
namespace Go.Proofs.Qxb6604297a
open Go.ChangeShapes Go.WideShapes Go.ChangeAt Go.RowKit

theorem bytes15 (a0 : Option Addr) (n0 c0 : Nat) (x : Int) (w : World) :
    Calls Try.prog 15 #[.slice a0 n0 c0, .int .i64 x] w fun e w' => ∃ b, e = .returned (.bool b) ∧ w = w' := by
  by_cases h0 : n0 ≤ 1048576
  · go_enter Try.func15, Try.ntmps15
    go_wp2
    all_goals (go_ret; exact ⟨_, rfl, rfl⟩)
  · go_enter Try.func15, Try.ntmps15
    go_wp2
    all_goals (go_ret; exact ⟨_, rfl, rfl⟩)
theorem bytes8 (a0 : Option Addr) (n0 c0 : Nat) (x : Int) (w : World) :
    Calls Try.prog 8 #[.slice a0 n0 c0, .int .i64 x] w fun e w' => ∃ b, e = .returned (.bool b) ∧ w = w' := by
  by_cases h0 : n0 ≤ 1048576
  · go_enter Try.func8, Try.ntmps8
    go_wp2
    all_goals (go_ret; exact ⟨_, rfl, rfl⟩)
  · go_enter Try.func8, Try.ntmps8
    go_wp2
    all_goals (go_ret; exact ⟨_, rfl, rfl⟩)

theorem tot_nonneg (cs : List Int) (i : Nat) : 0 ≤ tot cs i := by
  induction i with
  | zero => exact Int.le_refl _
  | succ i ih => simp only [tot]; split <;> omega

def ScanPost (cs : List Int) (w : World) (e : Ending) (w' : World) : Prop :=
  ∃ (u t : Int) (b : Bool), e = .returned (.tuple #[.int .i64 u, .int .i64 t, .bool b]) ∧ w = w' ∧ (b = true → tot cs cs.length ≤ 1125899906842624 ∧ u = ((scan cs cs.length).length : Int))

set_option maxRecDepth 100000 in
set_option maxHeartbeats 1000000 in
theorem scan_any (cs : List Int) (a : Option Addr) (c : Nat) (w : World) (hR : Reads w .i64 a cs) (hN : cs.length ≤ 1048576) :
    Calls Try.prog 10 #[.slice a cs.length c] w (ScanPost cs w) := by
  go_enter Try.func10, Try.ntmps10
  go_wp2
  go_loopg [11, 5, 6] cs.length (fun k t u s wx => ∃ (i m : Nat) (x : Int), cs.length - i ≤ k ∧ t = .int .i64 i ∧ i ≤ cs.length ∧ u = .int .i64 m ∧ s = .int .i64 x ∧ m ≤ i ∧ 0 ≤ x ∧ x ≤ 1125899906842624 ∧ w = wx ∧ Hid (m = (scan cs i).length ∧ x = tot cs i))
  case atStart => exact ⟨0, 0, 0, by omega, rfl, by omega, rfl, rfl, by omega, by omega, by omega, rfl, rfl, rfl⟩
  case round =>
    obtain ⟨i, m, x, hk, rfl, hi, rfl, rfl, hm, hx0, hx1, hw, HI⟩ := hrel
    have hw' := hw.symm
    subst hw'
    by_cases hin : i < cs.length
    · have hci : (i : Int) < (cs.length : Int) := by omega
      obtain ⟨cb, co, rfl⟩ := hR.addr (by omega)
      have q := (hR.at hin).2
      obtain ⟨y, hy⟩ : ∃ y, y = cs.getD i 0 := ⟨_, rfl⟩
      rw [← hy] at q
      have HY : Hid (y = cs.getD i 0) := hy
      clear hy
      by_cases hp : 0 < y
      · have d1 : decide (0 < y) = true := decide_eq_true hp
        by_cases hb : y ≤ 1125899906842624
        · have d2 : decide (1125899906842624 < y) = false := decide_eq_false (by omega)
          by_cases hs : x + y ≤ 1125899906842624
          · have d3 : decide (1125899906842624 < x + y) = false := decide_eq_false (by omega)
            go_wp2
            go_roundg (cs.length - (i + 1))
            case measure => omega
            case rel =>
              have e1 := HY.out
              refine ⟨i + 1, m + 1, x + y, Nat.le_refl _, by simp, by omega, by simp, by simp, by omega, by omega, hs, rfl, ?_, ?_⟩
              · simp only [scan]
                rw [if_pos (e1 ▸ hp), List.length_append, ← HI.out.1]
                rfl
              · simp only [tot]
                rw [if_pos (e1 ▸ hp), ← HI.out.2, ← e1]
          · have d3 : decide (1125899906842624 < x + y) = true := decide_eq_true (by omega)
            go_wp2
            go_ret3
            exact ⟨_, _, false, rfl, rfl, fun h => by cases h⟩
        · have d2 : decide (1125899906842624 < y) = true := decide_eq_true (by omega)
          go_wp2
          go_ret3
          exact ⟨_, _, false, rfl, rfl, fun h => by cases h⟩
      · have d1 : decide (0 < y) = false := decide_eq_false hp
        go_wp2
        go_roundg (cs.length - (i + 1))
        case measure => omega
        case rel =>
          have e1 := HY.out
          refine ⟨i + 1, m, x, Nat.le_refl _, by simp, by omega, rfl, rfl, by omega, hx0, hx1, rfl, ?_, ?_⟩
          · simp only [scan]
            rw [if_neg (by omega)]
            exact HI.out.1
          · simp only [tot]
            rw [if_neg (by omega), Int.add_zero]
            exact HI.out.2
    · have e : i = cs.length := by omega
      go_wp2
      go_ret3
      have h1 := HI.out.1
      have h2 := HI.out.2
      exact ⟨_, _, true, rfl, rfl, fun _ => ⟨by rw [← e, ← h2]; exact hx1, by rw [← e, ← h1]⟩⟩

def DomPost (cs : List Int) (lim : Nat) (w : World) (e : Ending) (w' : World) : Prop :=
  ∃ b, e = .returned (.bool b) ∧ w = w' ∧ (b = true → tot cs cs.length ≤ 1125899906842624 ∧ (2 ≤ (scan cs cs.length).length → (scan cs cs.length).length ≤ 2 ^ lim))

set_option maxRecDepth 100000 in
set_option maxHeartbeats 2000000 in
theorem clDom_any (cs : List Int) (a : Option Addr) (c lim : Nat) (w : World) (hR : Reads w .i64 a cs) (hN : cs.length ≤ 4096) (h1 : 1 ≤ lim) (h2 : lim ≤ 65536) :
    Calls Try.prog 9 #[.slice a cs.length c, .int .i64 lim] w (DomPost cs lim w) := by
  have HR : Hid (Reads w .i64 a cs) := hR
  clear hR
  go_enter Try.func9, Try.ntmps9
  go_upto_if 25 with (first | (go_at_call 17; refine (wide_any _).mono ?_; rintro e w' ⟨rfl, rfl⟩) | (go_at_call 10; refine (scan_any cs a c w HR.out (by omega)).mono ?_; rintro e w1 ⟨u, t, b, rfl, rfl, hb⟩))
  cases b with
  | false =>
    go_wp2
    go_ret
    exact ⟨false, rfl, rfl, fun h => by cases h⟩
  | true =>
    obtain ⟨ht, hu⟩ := hb rfl
    have HT : Hid (tot cs cs.length ≤ 1125899906842624) := ht
    obtain ⟨m, hm⟩ : ∃ m, m = (scan cs cs.length).length := ⟨_, rfl⟩
    rw [← hm] at hu
    subst hu
    have hm2 : m ≤ 4096 := by have := scan_len cs cs.length; omega
    have HM : Hid (m = (scan cs cs.length).length) := hm
    clear hm ht hb
    go_upto_region 6 with fail
    go_cut [37] (fun t wx => w = wx ∧ ∃ b, t = .bool b ∧ Hid (b = false → 2 ≤ m → m ≤ 2 ^ lim))
    case first =>
      as_aux_lemma =>
      by_cases h3 : 2 ≤ m
      · have d1 : decide ((2 : Int) ≤ (m : Int)) = true := decide_eq_true (by omega)
        by_cases h4 : lim < 30
        · have hcase : lim = 1 ∨ lim = 2 ∨ lim = 3 ∨ lim = 4 ∨ lim = 5 ∨ lim = 6 ∨ lim = 7 ∨ lim = 8 ∨ lim = 9 ∨ lim = 10 ∨ lim = 11 ∨ lim = 12 ∨ lim = 13 ∨ lim = 14 ∨ lim = 15 ∨ lim = 16 ∨ lim = 17 ∨ lim = 18 ∨ lim = 19 ∨ lim = 20 ∨ lim = 21 ∨ lim = 22 ∨ lim = 23 ∨ lim = 24 ∨ lim = 25 ∨ lim = 26 ∨ lim = 27 ∨ lim = 28 ∨ lim = 29 := by omega
          rcases hcase with rfl | rfl | rfl | rfl | rfl | rfl | rfl | rfl | rfl | rfl | rfl | rfl | rfl | rfl | rfl | rfl | rfl | rfl | rfl | rfl | rfl | rfl | rfl | rfl | rfl | rfl | rfl | rfl | rfl
          all_goals
            go_wp2
            go_meet
            case rel => exact ⟨rfl, _, rfl, fun hb _ => by simp only [decide_eq_false_iff_not] at hb; omega⟩
        · have d2 : decide ((lim : Int) < 30) = false := decide_eq_false (by omega)
          go_wp2
          go_meet
          case rel =>
            refine ⟨rfl, _, rfl, fun _ _ => ?_⟩
            have : 2 ^ 12 ≤ 2 ^ lim := Nat.pow_le_pow_right (by omega) (by omega)
            omega
      · have d1 : decide ((2 : Int) ≤ (m : Int)) = false := decide_eq_false (by omega)
        go_wp2
        go_meet
        case rel => exact ⟨rfl, _, rfl, fun _ h => absurd h h3⟩
    case rest =>
      obtain ⟨hwx, b, rfl, HB⟩ := hcut
      have h' := hwx.symm
      subst h'
      cases b with
      | true =>
        go_wp2
        go_ret
        exact ⟨false, rfl, rfl, fun h => by cases h⟩
      | false =>
        go_wp2
        go_ret
        have hm := HM.out
        exact ⟨true, rfl, rfl, fun _ => ⟨HT.out, by rw [← hm]; exact HB.out trivial⟩⟩
end Go.Proofs.Qxb6604297a
