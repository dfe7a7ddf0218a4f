/-
  A complete code is a way down of the dynamic program; sums over the counted symbols.
-/
import Derived.Test.Qxb6604297aCLaw
import Derived.Test.Qxb6604297aDPl
import Derived.Test.Qxb6604297aHOpt2
set_option linter.unusedVariables false
namespace Go.Proofs.Qxb6604297a
open Huff (sumF sumF_succ sumF_congr)

theorem sumF_swap (g : Nat → Nat → Int) (n m : Nat) : sumF (fun e => sumF (fun i => g e i) n) m = sumF (fun i => sumF (fun e => g e i) m) n := by
  induction m with
  | zero =>
    show 0 = _
    have : ∀ i, sumF (fun e => g e i) 0 = 0 := fun i => rfl
    rw [sumF_congr n (fun i _ => this i), Huff.sumF_zero]
  | succ m ih =>
    rw [sumF_succ, ih, ← Huff.sumF_add]
    exact sumF_congr n (fun i _ => by rw [sumF_succ])

/-- How many of the first n are longer than e. -/
def longer (d : Nat → Nat) (e : Nat) : Nat → Nat
  | 0 => 0
  | n + 1 => longer d e n + if e < d n then 1 else 0
theorem longer_le (d : Nat → Nat) (e n : Nat) : longer d e n ≤ n := by
  induction n with
  | zero => exact Nat.le_refl _
  | succ n ih => simp only [longer]; split <;> omega
theorem longer_all {d : Nat → Nat} {e n : Nat} (h : ∀ i, i < n → e < d i) : longer d e n = n := by
  induction n with
  | zero => rfl
  | succ n ih => simp only [longer]; rw [ih (fun i hi => h i (by omega)), if_pos (h n (by omega))]
theorem longer_iff {d : Nat → Nat} {e : Nat} (n : Nat) (ha : ∀ i j, i ≤ j → j < n → d j ≤ d i) : ∀ i, i < n → (e < d i ↔ i < longer d e n) := by
  induction n with
  | zero => intro i hi; omega
  | succ n ih =>
    intro i hi
    have h1 := ih (fun i j h1 h2 => ha i j h1 (by omega))
    by_cases c : e < d n
    · have hall : ∀ j, j < n + 1 → e < d j := fun j hj => by have := ha j n (by omega) (by omega); omega
      rw [longer_all hall]
      have := hall i hi
      omega
    · have e1 : longer d e (n + 1) = longer d e n := by simp only [longer]; rw [if_neg c]; rfl
      rw [e1]
      by_cases c2 : i < n
      · exact h1 i c2
      · have e2 : i = n := by omega
        have := longer_le d e n
        rw [e2]
        omega
theorem longer_sum (d : Nat → Nat) (e n : Nat) : (longer d e n : Int) = sumF (fun i => if e < d i then 1 else 0) n := by
  induction n with
  | zero => rfl
  | succ n ih => simp only [longer]; rw [sumF_succ, ← ih]; split <;> simp
theorem longer_step (d : Nat → Nat) (e n : Nat) : longer d (e + 1) n ≤ longer d e n := by
  induction n with
  | zero => exact Nat.le_refl _
  | succ n ih => simp only [longer]; split <;> split <;> omega

/-- The open slots. -/
def slots (d : Nat → Nat) (n : Nat) : Nat → Nat
  | 0 => 1
  | e + 1 => 2 * slots d n e - (longer d e n - longer d (e + 1) n)
def owed (d : Nat → Nat) (n e : Nat) : Int := sumF (fun i => if e < d i then (2 : Int) ^ (255 - d i) else 0) n

theorem pow_pos (k : Nat) : (0 : Int) < 2 ^ k := Int.pow_pos (by decide)
theorem owed_nonneg (d : Nat → Nat) (n e : Nat) : 0 ≤ owed d n e := by
  unfold owed
  refine Huff.sumF_nonneg (fun i _ => ?_)
  split
  · exact Int.le_of_lt (pow_pos _)
  · exact Int.le_refl _
theorem owed_step (d : Nat → Nat) (n e : Nat) : owed d n e = owed d n (e + 1) + ((longer d e n : Int) - longer d (e + 1) n) * 2 ^ (255 - (e + 1)) := by
  induction n with
  | zero => simp [owed, longer, sumF]
  | succ n ih =>
    unfold owed at ih ⊢
    simp only [longer]
    rw [sumF_succ, sumF_succ, ih]
    by_cases c : e + 1 < d n
    · rw [if_pos (show e < d n by omega), if_pos c, if_pos (show e < d n by omega), if_pos c]
      rw [show (((longer d e n + 1 : Nat) : Int) - ((longer d (e + 1) n + 1 : Nat) : Int)) = (longer d e n : Int) - longer d (e + 1) n by omega]
      omega
    · rw [if_neg c, if_neg c]
      by_cases c2 : e < d n
      · have e1 : d n = e + 1 := by omega
        rw [if_pos c2, if_pos c2, e1]
        rw [show (((longer d e n + 1 : Nat) : Int) - ((longer d (e + 1) n + 0 : Nat) : Int)) = ((longer d e n : Int) - longer d (e + 1) n) + 1 by omega, Int.add_mul]
        omega
      · rw [if_neg c2, if_neg c2]
        rw [show (((longer d e n + 0 : Nat) : Int) - ((longer d (e + 1) n + 0 : Nat) : Int)) = (longer d e n : Int) - longer d (e + 1) n by omega]
        omega

theorem slots_owed {n lim : Nat} {d : Nat → Nat} (h : Code n lim d) (e : Nat) (he : e ≤ 200) : (slots d n e : Int) * 2 ^ (255 - e) = owed d n e := by
  induction e with
  | zero =>
    show (1 : Int) * 2 ^ 255 = _
    rw [Int.one_mul, ← h.kraft]
    unfold owed
    exact sumF_congr n (fun i hi => by rw [if_pos (by have := h.lo i hi; omega)])
  | succ e ih =>
    have h1 := ih (by omega)
    have h2 := owed_step d n e
    have h3 := owed_nonneg d n (e + 1)
    have h4 := longer_step d e n
    have hp := pow_pos (255 - (e + 1))
    have ep : (2 : Int) ^ (255 - e) = 2 ^ (255 - (e + 1)) * 2 := by
      rw [show 255 - e = 255 - (e + 1) + 1 by omega, Int.pow_succ]
    rw [ep] at h1
    have h5 : owed d n (e + 1) = (2 * (slots d n e : Int) - ((longer d e n : Int) - longer d (e + 1) n)) * 2 ^ (255 - (e + 1)) := by
      rw [Int.sub_mul]
      have : 2 * (slots d n e : Int) * 2 ^ (255 - (e + 1)) = (slots d n e : Int) * (2 ^ (255 - (e + 1)) * 2) := by
        rw [Int.mul_comm 2, Int.mul_assoc, Int.mul_comm 2]
      omega
    have h6 : 0 ≤ 2 * (slots d n e : Int) - ((longer d e n : Int) - longer d (e + 1) n) := by
      apply Classical.byContradiction
      intro hc
      have : (2 * (slots d n e : Int) - ((longer d e n : Int) - longer d (e + 1) n)) * 2 ^ (255 - (e + 1)) < 0 := Int.mul_neg_of_neg_of_pos (by omega) hp
      omega
    have h7 : (slots d n (e + 1) : Int) = 2 * (slots d n e : Int) - ((longer d e n : Int) - longer d (e + 1) n) := by
      simp only [slots]
      omega
    rw [h5, h7]

/-- A COMPLETE CODE IS A WAY DOWN. -/
theorem code_path {n lim : Nat} {d : Nat → Nat} (h : Code n lim d) (hn : 1 ≤ n) : DP.Path n (d 0) (fun e => longer d e n) (slots d n) := by
  have h0 := h.top 0 (by omega)
  have hs := fun e (he : e < d 0) => slots_owed h e (by omega)
  refine ⟨longer_all (fun i hi => by have := h.lo i hi; omega), rfl, ?_, ?_, ?_, ?_, ?_, ?_⟩
  · intro e he
    show 2 * slots d n e ≤ longer d e n
    have h1 := hs e he
    have hp := pow_pos (255 - (e + 1))
    have ep : (2 : Int) ^ (255 - e) = 2 ^ (255 - (e + 1)) * 2 := by
      rw [show 255 - e = 255 - (e + 1) + 1 by omega, Int.pow_succ]
    have h2 : owed d n e ≤ (longer d e n : Int) * 2 ^ (255 - (e + 1)) := by
      rw [longer_sum, Int.mul_comm, ← sumF_mul]
      unfold owed
      refine Huff.sumF_le (fun i hi => ?_)
      by_cases c : e < d i
      · rw [if_pos c, if_pos c, Int.mul_one]
        have e1 : (2 : Int) ^ (255 - (e + 1)) = 2 ^ (255 - d i) * 2 ^ (d i - (e + 1)) := by
          have := h.top i hi
          rw [← Int.pow_add]
          congr 1
          omega
        rw [e1]
        have p1 := pow_pos (255 - d i)
        have p2 := pow_pos (d i - (e + 1))
        have := Int.mul_le_mul_of_nonneg_left (show (1 : Int) ≤ 2 ^ (d i - (e + 1)) by omega) (Int.le_of_lt p1)
        rw [Int.mul_one] at this
        exact this
      · rw [if_neg c, if_neg c, Int.mul_zero]
        exact Int.le_refl _
    rw [← h1, ep] at h2
    have h3 : (2 * (slots d n e : Int)) * 2 ^ (255 - (e + 1)) ≤ (longer d e n : Int) * 2 ^ (255 - (e + 1)) := by
      have : 2 * (slots d n e : Int) * 2 ^ (255 - (e + 1)) = (slots d n e : Int) * (2 ^ (255 - (e + 1)) * 2) := by
        rw [Int.mul_comm 2, Int.mul_assoc, Int.mul_comm 2]
      omega
    have h4 := Int.le_of_mul_le_mul_right h3 hp
    omega
  · intro e he
    show 1 ≤ slots d n e
    have h1 := hs e he
    have h2 : 0 < owed d n e := by
      have := PM.sumF_one (fun i => if e < d i then (2 : Int) ^ (255 - d i) else 0) n (fun i _ => by
        split
        · exact Int.le_of_lt (pow_pos _)
        · exact Int.le_refl _) (i := 0) (by omega)
      rw [if_pos he] at this
      have hp := pow_pos (255 - d 0)
      unfold owed
      omega
    apply Classical.byContradiction
    intro hc
    have : slots d n e = 0 := by omega
    rw [this] at h1
    simp at h1
    omega
  · intro e he
    exact longer_step d e n
  · intro e he
    show slots d n (e + 1) + (longer d e n - longer d (e + 1) n) = 2 * slots d n e
    have h1 := slots_owed h e (by omega)
    have h2 := owed_step d n e
    have h3 := owed_nonneg d n (e + 1)
    have h4 := longer_step d e n
    have hp := pow_pos (255 - (e + 1))
    have ep : (2 : Int) ^ (255 - e) = 2 ^ (255 - (e + 1)) * 2 := by
      rw [show 255 - e = 255 - (e + 1) + 1 by omega, Int.pow_succ]
    rw [ep] at h1
    have h5 : owed d n (e + 1) = (2 * (slots d n e : Int) - ((longer d e n : Int) - longer d (e + 1) n)) * 2 ^ (255 - (e + 1)) := by
      rw [Int.sub_mul]
      have : 2 * (slots d n e : Int) * 2 ^ (255 - (e + 1)) = (slots d n e : Int) * (2 ^ (255 - (e + 1)) * 2) := by
        rw [Int.mul_comm 2, Int.mul_assoc, Int.mul_comm 2]
      omega
    have h6 : 0 ≤ 2 * (slots d n e : Int) - ((longer d e n : Int) - longer d (e + 1) n) := by
      apply Classical.byContradiction
      intro hc
      have : (2 * (slots d n e : Int) - ((longer d e n : Int) - longer d (e + 1) n)) * 2 ^ (255 - (e + 1)) < 0 := Int.mul_neg_of_neg_of_pos (by omega) hp
      omega
    simp only [slots]
    omega
  · show longer d (d 0) n = 0
    have hz : ∀ k, k ≤ n → longer d (d 0) k = 0 := by
      intro k
      induction k with
      | zero => intro _; rfl
      | succ k ih =>
        intro hk
        simp only [longer]
        rw [ih (by omega), if_neg]
        have := h.anti 0 k (Nat.zero_le _) (by omega)
        omega
    exact hz n (Nat.le_refl _)
  · have h1 := slots_owed h (d 0) (by omega)
    have h2 : owed d n (d 0) = 0 := by
      unfold owed
      rw [sumF_congr n (fun i hi => by rw [if_neg (by have := h.anti 0 i (Nat.zero_le _) hi; omega)]), Huff.sumF_zero]
    rw [h2] at h1
    have hp := pow_pos (255 - d 0)
    show slots d n (d 0) = 0
    rcases Int.mul_eq_zero.1 h1 with h3 | h3
    · omega
    · omega

theorem code_cost {n lim : Nat} {d : Nat → Nat} (h : Code n lim d) (hn : 1 ≤ n) (C : Nat → Int) : wcost C (fun e => longer d e n) (d 0) = sumF (fun i => C i * (d i : Int)) n := by
  unfold wcost
  have e1 : ∀ e, sumF C (longer d e n) = sumF (fun i => if e < d i then C i else 0) n := by
    intro e
    rw [← PM.sumF_part (longer d e n) n C (longer_le d e n)]
    refine sumF_congr n (fun i hi => ?_)
    have := longer_iff (e := e) n h.anti i hi
    by_cases c : e < d i
    · rw [if_pos (this.1 c), if_pos c]
    · rw [if_neg (fun h => c (this.2 h)), if_neg c]
  rw [sumF_congr (d 0) (fun e _ => e1 e), sumF_swap]
  refine sumF_congr n (fun i hi => ?_)
  rw [PM.sumF_part (d i) (d 0) (fun _ => C i) (h.anti 0 i (Nat.zero_le _) hi), PM.sumF_const, Int.mul_comm]

/-- Sums over the counted symbols. -/
theorem covers_sum {cs us : List Int} (hc : Covers cs us) (g : Nat → Int) : sumF (fun i => g (us.getD i 0).toNat) us.length = sumF (fun s => if 0 < cs.getD s 0 then g s else 0) cs.length := by
  have e1 : ∀ i, i < us.length → g (us.getD i 0).toNat = sumF (fun s => if s = (us.getD i 0).toNat then g s else 0) cs.length := by
    intro i hi
    obtain ⟨s, h1, h2, h3⟩ := hc.src i hi
    rw [sumF_pick, if_pos (by omega)]
  rw [sumF_congr us.length e1, sumF_swap (fun i s => if s = (us.getD i 0).toNat then g s else 0) cs.length us.length]
  refine sumF_congr cs.length (fun s hs => ?_)
  by_cases c : 0 < cs.getD s 0
  · rw [if_pos c]
    obtain ⟨i0, h1, h2⟩ := hc.all s hs c
    rw [sumF_congr us.length (h := fun i => if i = i0 then (fun _ => g s) i else 0), sumF_pick, if_pos h1]
    intro i hi
    by_cases e : i = i0
    · rw [if_pos e, if_pos (by rw [e, h2]; simp)]
    · rw [if_neg e, if_neg]
      intro he
      obtain ⟨s', h3, h4, h5⟩ := hc.src i hi
      exact e (hc.dist i i0 hi h1 (by omega))
  · rw [if_neg c, sumF_congr us.length (h := fun _ => 0), Huff.sumF_zero]
    intro i hi
    rw [if_neg]
    intro he
    obtain ⟨s', h3, h4, h5⟩ := hc.src i hi
    rw [h4, Int.toNat_natCast] at he
    rw [he] at c
    exact c h5
end Go.Proofs.Qxb6604297a
