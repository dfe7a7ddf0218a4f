/-
  Package-merge, in plain words.
-/
import Derived.Test.Qxb6604297aPool
set_option linter.unusedVariables false
namespace Go.Proofs.Qxb6604297a.PM
open Huff (sumF sumF_succ sumF_congr pow2_succ pow2_pos)

/-- Does a leaf come next? -/
def lf (n np : Nat) (C Q : Nat → Int) (a p : Nat) : Bool := decide (p = np) || (decide (a < n) && decide (C a ≤ Q p))
theorem lf_true {n np : Nat} {C Q : Nat → Int} {a p : Nat} : lf n np C Q a p = true ↔ p = np ∨ (a < n ∧ C a ≤ Q p) := by simp [lf]
theorem lf_false {n np : Nat} {C Q : Nat → Int} {a p : Nat} : lf n np C Q a p = false ↔ p ≠ np ∧ (a < n → Q p < C a) := by
  simp [lf]

/-- The merge of n leaves and np packages, both in ascending order: how many of each lie among the first t. -/
def mst (n np : Nat) (C Q : Nat → Int) : Nat → Nat × Nat
  | 0 => (0, 0)
  | t + 1 => if lf n np C Q (mst n np C Q t).1 (mst n np C Q t).2 then ((mst n np C Q t).1 + 1, (mst n np C Q t).2) else ((mst n np C Q t).1, (mst n np C Q t).2 + 1)

theorem mst_sum (n np : Nat) (C Q : Nat → Int) (t : Nat) : (mst n np C Q t).1 + (mst n np C Q t).2 = t := by
  induction t with
  | zero => rfl
  | succ t ih => simp only [mst]; split <;> simp <;> omega
theorem mst_leaf {n np : Nat} {C Q : Nat → Int} {t : Nat} (h : lf n np C Q (mst n np C Q t).1 (mst n np C Q t).2 = true) : mst n np C Q (t + 1) = ((mst n np C Q t).1 + 1, (mst n np C Q t).2) := by
  simp only [mst, h, if_true]
theorem mst_pack {n np : Nat} {C Q : Nat → Int} {t : Nat} (h : lf n np C Q (mst n np C Q t).1 (mst n np C Q t).2 = false) : mst n np C Q (t + 1) = ((mst n np C Q t).1, (mst n np C Q t).2 + 1) := by
  simp only [mst, h]; rfl
theorem mst_le (n np : Nat) (C Q : Nat → Int) (t : Nat) (ht : t ≤ n + np) : (mst n np C Q t).1 ≤ n ∧ (mst n np C Q t).2 ≤ np := by
  induction t with
  | zero => exact ⟨Nat.zero_le _, Nat.zero_le _⟩
  | succ t ih =>
    have i := ih (by omega)
    have s := mst_sum n np C Q t
    by_cases h : lf n np C Q (mst n np C Q t).1 (mst n np C Q t).2 = true
    · rw [mst_leaf h]
      refine ⟨?_, i.2⟩
      rcases lf_true.1 h with h | h
      · show _ + 1 ≤ n; omega
      · show _ + 1 ≤ n; omega
    · rw [mst_pack (by simpa using h)]
      refine ⟨i.1, ?_⟩
      have : (mst n np C Q t).2 ≠ np := fun e => h (lf_true.2 (.inl e))
      show _ + 1 ≤ np; omega
theorem mst_mono (n np : Nat) (C Q : Nat → Int) {s t : Nat} (h : s ≤ t) : (mst n np C Q s).1 ≤ (mst n np C Q t).1 ∧ (mst n np C Q s).2 ≤ (mst n np C Q t).2 := by
  induction t with
  | zero => have : s = 0 := by omega
            rw [this]; exact ⟨Nat.le_refl _, Nat.le_refl _⟩
  | succ t ih =>
    by_cases e : s = t + 1
    · rw [e]; exact ⟨Nat.le_refl _, Nat.le_refl _⟩
    · have i := ih (by omega)
      by_cases h : lf n np C Q (mst n np C Q t).1 (mst n np C Q t).2 = true
      · rw [mst_leaf h]; exact ⟨Nat.le_succ_of_le i.1, i.2⟩
      · rw [mst_pack (by simpa using h)]; exact ⟨i.1, Nat.le_succ_of_le i.2⟩
/-- Where the a-th leaf lies. -/
theorem leaf_pos (n np : Nat) (C Q : Nat → Int) {t a : Nat} (h : a < (mst n np C Q t).1) : ∃ s, s < t ∧ (mst n np C Q s).1 = a ∧ lf n np C Q (mst n np C Q s).1 (mst n np C Q s).2 = true := by
  induction t with
  | zero => simp [mst] at h
  | succ t ih =>
    by_cases c : a < (mst n np C Q t).1
    · obtain ⟨s, s1, s2, s3⟩ := ih c
      exact ⟨s, by omega, s2, s3⟩
    · by_cases hl : lf n np C Q (mst n np C Q t).1 (mst n np C Q t).2 = true
      · rw [mst_leaf hl] at h
        exact ⟨t, by omega, by simp at h; omega, hl⟩
      · rw [mst_pack (by simpa using hl)] at h
        exact absurd h c
theorem pack_pos (n np : Nat) (C Q : Nat → Int) {t p : Nat} (h : p < (mst n np C Q t).2) : ∃ s, s < t ∧ (mst n np C Q s).2 = p ∧ lf n np C Q (mst n np C Q s).1 (mst n np C Q s).2 = false := by
  induction t with
  | zero => simp [mst] at h
  | succ t ih =>
    by_cases c : p < (mst n np C Q t).2
    · obtain ⟨s, s1, s2, s3⟩ := ih c
      exact ⟨s, by omega, s2, s3⟩
    · by_cases hl : lf n np C Q (mst n np C Q t).1 (mst n np C Q t).2 = true
      · rw [mst_leaf hl] at h
        exact absurd h c
      · rw [mst_pack (by simpa using hl)] at h
        exact ⟨t, by omega, by simp at h; omega, by simpa using hl⟩

/-- A level's weights. -/
def wtOf (n np : Nat) (C Q : Nat → Int) (t : Nat) : Int := if lf n np C Q (mst n np C Q t).1 (mst n np C Q t).2 then C (mst n np C Q t).1 else Q (mst n np C Q t).2

/-- How many items a level has, and their weights. -/
def lev (n : Nat) (C : Nat → Int) : Nat → Nat × (Nat → Int)
  | 0 => (n, wtOf n 0 C (fun _ => 0))
  | l + 1 => (n + (lev n C l).1 / 2, wtOf n ((lev n C l).1 / 2) C (fun k => (lev n C l).2 (2 * k) + (lev n C l).2 (2 * k + 1)))
def np (n : Nat) (C : Nat → Int) : Nat → Nat
  | 0 => 0
  | l + 1 => (lev n C l).1 / 2
def Qf (n : Nat) (C : Nat → Int) : Nat → Nat → Int
  | 0 => fun _ => 0
  | l + 1 => fun k => (lev n C l).2 (2 * k) + (lev n C l).2 (2 * k + 1)
/-- Leaves and packages among the first t items of level l. -/
def st (n : Nat) (C : Nat → Int) (l t : Nat) : Nat × Nat := mst n (np n C l) C (Qf n C l) t
def len (n : Nat) (C : Nat → Int) (l : Nat) : Nat := n + np n C l
def wt (n : Nat) (C : Nat → Int) (l t : Nat) : Int := wtOf n (np n C l) C (Qf n C l) t
def leafAt (n : Nat) (C : Nat → Int) (l t : Nat) : Bool := lf n (np n C l) C (Qf n C l) (st n C l t).1 (st n C l t).2
theorem lev_len (n : Nat) (C : Nat → Int) (l : Nat) : (lev n C l).1 = len n C l := by cases l <;> simp [lev, len, np]
theorem lev_wt (n : Nat) (C : Nat → Int) (l t : Nat) : (lev n C l).2 t = wt n C l t := by cases l <;> rfl
theorem np_succ (n : Nat) (C : Nat → Int) (l : Nat) : np n C (l + 1) = len n C l / 2 := by show (lev n C l).1 / 2 = _; rw [lev_len]
theorem Qf_succ (n : Nat) (C : Nat → Int) (l k : Nat) : Qf n C (l + 1) k = wt n C l (2 * k) + wt n C l (2 * k + 1) := by show (lev n C l).2 _ + (lev n C l).2 _ = _; rw [lev_wt, lev_wt]
theorem wt_leaf {n : Nat} {C : Nat → Int} {l t : Nat} (h : leafAt n C l t = true) : wt n C l t = C (st n C l t).1 := by 
  unfold wt wtOf
  have h' : lf n (np n C l) C (Qf n C l) (mst n (np n C l) C (Qf n C l) t).1 (mst n (np n C l) C (Qf n C l) t).2 = true := h
  rw [if_pos h']; rfl
theorem wt_pack {n : Nat} {C : Nat → Int} {l t : Nat} (h : leafAt n C l t = false) : wt n C l t = Qf n C l (st n C l t).2 := by
  unfold wt wtOf
  have h' : ¬ (lf n (np n C l) C (Qf n C l) (mst n (np n C l) C (Qf n C l) t).1 (mst n (np n C l) C (Qf n C l) t).2 = true) := by
    intro e; unfold leafAt st at h; rw [e] at h; cases h
  rw [if_neg h']; rfl
theorem st_zero (n : Nat) (C : Nat → Int) (l : Nat) : st n C l 0 = (0, 0) := rfl
theorem st_leaf {n : Nat} {C : Nat → Int} {l t : Nat} (h : leafAt n C l t = true) : st n C l (t + 1) = ((st n C l t).1 + 1, (st n C l t).2) := mst_leaf h
theorem st_pack {n : Nat} {C : Nat → Int} {l t : Nat} (h : leafAt n C l t = false) : st n C l (t + 1) = ((st n C l t).1, (st n C l t).2 + 1) := mst_pack h
theorem st_sum (n : Nat) (C : Nat → Int) (l t : Nat) : (st n C l t).1 + (st n C l t).2 = t := mst_sum _ _ _ _ _
theorem st_le (n : Nat) (C : Nat → Int) {l t : Nat} (h : t ≤ len n C l) : (st n C l t).1 ≤ n ∧ (st n C l t).2 ≤ np n C l := mst_le _ _ _ _ _ h

/-- How often the a-th leaf is counted when the first t items of level l are taken. -/
def cnt (n : Nat) (C : Nat → Int) : Nat → Nat → Nat → Nat
  | 0, t, a => if a < (st n C 0 t).1 then 1 else 0
  | l + 1, t, a => (if a < (st n C (l + 1) t).1 then 1 else 0) + cnt n C l (2 * (st n C (l + 1) t).2) a

theorem cnt_le (n : Nat) (C : Nat → Int) (l t a : Nat) : cnt n C l t a ≤ l + 1 := by
  induction l generalizing t with
  | zero => simp only [cnt]; split <;> omega
  | succ l ih => simp only [cnt]; have := ih (2 * (st n C (l + 1) t).2); split <;> omega
theorem cnt_mono (n : Nat) (C : Nat → Int) (l t : Nat) {a b : Nat} (h : a ≤ b) : cnt n C l t b ≤ cnt n C l t a := by
  induction l generalizing t with
  | zero => simp only [cnt]; split <;> split <;> omega
  | succ l ih => simp only [cnt]; have := ih (2 * (st n C (l + 1) t).2); split <;> split <;> omega

section
variable {n : Nat} {C : Nat → Int}
theorem wt_pos (hC : ∀ i, i < n → 1 ≤ C i) (l : Nat) : ∀ t, t < len n C l → 1 ≤ wt n C l t := by
  induction l with
  | zero =>
    intro t ht
    have hs := st_sum n C 0 t
    have hle := st_le n C (l := 0) (t := t) (by omega)
    have hl : len n C 0 = n := rfl
    have hnp : np n C 0 = 0 := rfl
    have hleaf : leafAt n C 0 t = true := lf_true.2 (.inl (by omega))
    rw [wt_leaf hleaf]
    exact hC _ (by omega)
  | succ l ih =>
    intro t ht
    have hs := st_sum n C (l + 1) t
    have hle := st_le n C (l := l + 1) (t := t) (by omega)
    by_cases h : leafAt n C (l + 1) t = true
    · rw [wt_leaf h]
      refine hC _ ?_
      rcases lf_true.1 h with h1 | h1
      · have : len n C (l + 1) = n + np n C (l + 1) := rfl
        omega
      · exact h1.1
    · have h' : leafAt n C (l + 1) t = false := by simpa using h
      rw [wt_pack h', Qf_succ]
      have hne := (lf_false.1 h').1
      have hnp := np_succ n C l
      have a1 := ih (2 * (st n C (l + 1) t).2) (by omega)
      have a2 := ih (2 * (st n C (l + 1) t).2 + 1) (by omega)
      omega

/-- A leaf that is taken below is taken above. -/
theorem nest (hC : ∀ i, i < n → 1 ≤ C i) (hS : ∀ i j, i ≤ j → j < n → C i ≤ C j) {l t a : Nat} (ht : t ≤ len n C (l + 1)) (h : a < (st n C l (2 * (st n C (l + 1) t).2)).1) : a < (st n C (l + 1) t).1 := by
  obtain ⟨s, s1, s2, s3⟩ := leaf_pos _ _ _ _ h
  have hle := st_le n C ht
  have hnp := np_succ n C l
  -- the package that holds it
  have hk : s / 2 < (st n C (l + 1) t).2 := by omega
  obtain ⟨r, r1, r2, r3⟩ := pack_pos _ _ _ _ hk
  have r3' := lf_false.1 r3
  have hQ := Qf_succ n C l (s / 2)
  have hws : wt n C l s = C a := by
    have : leafAt n C l s = true := s3
    rw [wt_leaf this]
    exact congrArg C s2
  have p1 := wt_pos hC l (2 * (s / 2)) (by omega)
  have p2 := wt_pos hC l (2 * (s / 2) + 1) (by omega)
  have hgt : C a < Qf n C (l + 1) (s / 2) := by
    rw [hQ]
    by_cases e : s = 2 * (s / 2)
    · have hh : wt n C l (2 * (s / 2)) = C a := by rw [← e]; exact hws
      omega
    · have e2 : 2 * (s / 2) + 1 = s := by omega
      have hh : wt n C l (2 * (s / 2) + 1) = C a := by rw [e2]; exact hws
      omega
  have r2' : (mst n (np n C (l + 1)) C (Qf n C (l + 1)) r).2 = s / 2 := r2
  rw [r2'] at r3'
  have hmono := (mst_mono n (np n C (l + 1)) C (Qf n C (l + 1)) (show r ≤ t by omega)).1
  have hrle := (mst_le n (np n C (l + 1)) C (Qf n C (l + 1)) r (by have : t ≤ n + np n C (l + 1) := ht; omega)).1
  apply Nat.lt_of_lt_of_le _ hmono
  have han : a < n := by
    have h1 := st_le n C (l := l) (t := 2 * (st n C (l + 1) t).2) (by omega)
    omega
  apply Classical.byContradiction
  intro hc
  have h1 := r3'.2 (by omega)
  have h2 := hS (mst n (np n C (l + 1)) C (Qf n C (l + 1)) r).1 a (by omega) han
  omega

theorem cnt_zero (hC : ∀ i, i < n → 1 ≤ C i) (hS : ∀ i j, i ≤ j → j < n → C i ≤ C j) (l : Nat) : ∀ t a, t ≤ len n C l → (st n C l t).1 ≤ a → cnt n C l t a = 0 := by
  induction l with
  | zero => intro t a ht h; simp only [cnt]; rw [if_neg (by omega)]
  | succ l ih =>
    intro t a ht h
    simp only [cnt]
    rw [if_neg (by omega)]
    have hle := st_le n C ht
    have hnp := np_succ n C l
    rw [ih _ a (by omega) ?_]
    apply Classical.byContradiction
    intro hc
    have := nest hC hS ht (a := a) (by omega)
    omega

/-- Kraft's sum, level by level. -/
theorem pm_kraft (hC : ∀ i, i < n → 1 ≤ C i) (hS : ∀ i j, i ≤ j → j < n → C i ≤ C j) (l : Nat) : ∀ t, t ≤ len n C l → sumF (fun a => 2 ^ (l + 1) - 2 ^ (l + 1 - cnt n C l t a)) n = (t : Int) * 2 ^ l := by
  have part : ∀ (A k : Nat) (f : Nat → Int), A ≤ k → sumF (fun a => if a < A then f a else 0) k = sumF f A := by
    intro A k f hA
    rw [← sumF_congr A (f := fun a => if a < A then f a else 0) (fun i hi => by rw [if_pos hi])]
    exact (Huff.sumF_same hA (fun i h1 h2 => by rw [if_neg (by omega)]))
  have const : ∀ (v : Int) (k : Nat), sumF (fun _ => v) k = (k : Int) * v := by
    intro v k
    induction k with
    | zero => simp [sumF]
    | succ k ih => rw [sumF_succ, ih, show ((k + 1 : Nat) : Int) = (k : Int) + 1 by omega, Int.add_mul]; omega
  induction l with
  | zero =>
    intro t ht
    have hs := st_sum n C 0 t
    have hle := st_le n C ht
    have hnp : np n C 0 = 0 := rfl
    have ha : (st n C 0 t).1 = t := by omega
    have e : sumF (fun a => (2 : Int) ^ (0 + 1) - 2 ^ (0 + 1 - cnt n C 0 t a)) n = sumF (fun a => if a < t then 1 else 0) n := by
      refine sumF_congr n (fun i hi => ?_)
      simp only [cnt]
      rw [ha]
      by_cases c : i < t
      · rw [if_pos c, if_pos c]; decide
      · rw [if_neg c, if_neg c]; decide
    rw [e, part t n (fun _ => 1) (by omega), const]
    simp
  | succ l ih =>
    intro t ht
    have hs := st_sum n C (l + 1) t
    have hle := st_le n C ht
    have hnp := np_succ n C l
    have i1 := ih (2 * (st n C (l + 1) t).2) (by omega)
    have e : sumF (fun a => (2 : Int) ^ (l + 1 + 1) - 2 ^ (l + 1 + 1 - cnt n C (l + 1) t a)) n
        = sumF (fun a => (if a < (st n C (l + 1) t).1 then 2 ^ (l + 1) else 0) + (2 ^ (l + 1) - 2 ^ (l + 1 - cnt n C l (2 * (st n C (l + 1) t).2) a))) n := by
      refine sumF_congr n (fun a ha => ?_)
      have hc := cnt_le n C l (2 * (st n C (l + 1) t).2) a
      by_cases c : a < (st n C (l + 1) t).1
      · rw [if_pos c]
        simp only [cnt]
        rw [if_pos c, show l + 1 + 1 - (1 + cnt n C l (2 * (st n C (l + 1) t).2) a) = l + 1 - cnt n C l (2 * (st n C (l + 1) t).2) a by omega, pow2_succ (l + 1)]
        omega
      · have z0 : cnt n C l (2 * (st n C (l + 1) t).2) a = 0 := by
          have h1 := cnt_zero hC hS (l + 1) t a ht (by omega)
          simp only [cnt] at h1
          omega
        rw [if_neg c]
        simp only [cnt]
        rw [if_neg c, z0]
        simp
    rw [e, Huff.sumF_add, i1, part _ n (fun _ => 2 ^ (l + 1)) hle.1, const, pow2_succ l]
    rw [show (t : Int) * (2 * 2 ^ l) = (((st n C (l + 1) t).1 : Int) + ((st n C (l + 1) t).2 : Int)) * (2 * 2 ^ l) by congr 1; omega, show ((2 * (st n C (l + 1) t).2 : Nat) : Int) = 2 * ((st n C (l + 1) t).2 : Int) by omega]
    generalize ((st n C (l + 1) t).1 : Int) = x
    generalize ((st n C (l + 1) t).2 : Int) = y
    generalize (2 : Int) ^ l = z
    rw [Int.add_mul, Int.mul_assoc 2 y z, Int.mul_left_comm y 2 z]
end
end Go.Proofs.Qxb6604297a.PM
