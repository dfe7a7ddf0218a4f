/-
  Package-merge in plain words: how many items a level has, what the lengths come to, the weights, and the taking of one item.
-/
import Derived.Test.Qxb6604297aPM
set_option linter.unusedVariables false
namespace Go.Proofs.Qxb6604297a.PM
open Huff (sumF sumF_succ sumF_congr pow2_succ pow2_pos)

theorem len_eq {n : Nat} (C : Nat → Int) (hn : 1 ≤ n) (l : Nat) : len n C l + (n - 1) / 2 ^ l = 2 * n - 1 := by
  induction l with
  | zero => show n + 0 + _ = _; simp; omega
  | succ l ih =>
    show n + np n C (l + 1) + _ = _
    rw [np_succ, Nat.pow_succ, ← Nat.div_div_eq_div_mul]
    omega
theorem len_ge {n : Nat} (C : Nat → Int) (hn : 1 ≤ n) {l : Nat} (h : n ≤ 2 ^ (l + 1)) : 2 * n - 2 ≤ len n C l := by
  have h1 := len_eq C hn l
  have h2 : (n - 1) / 2 ^ l < 2 := by
    rw [Nat.div_lt_iff_lt_mul (Nat.two_pow_pos l)]
    rw [Nat.pow_succ] at h
    omega
  omega
theorem len_le {n : Nat} (C : Nat → Int) (hn : 1 ≤ n) (l : Nat) : len n C l < 2 * n := by
  have h1 := len_eq C hn l
  generalize (n - 1) / 2 ^ l = q at h1
  omega

theorem sumF_const (v : Int) (k : Nat) : sumF (fun _ => v) k = (k : Int) * v := by
  induction k with
  | zero => simp [sumF]
  | succ k ih => rw [sumF_succ, ih, show ((k + 1 : Nat) : Int) = (k : Int) + 1 by omega, Int.add_mul]; omega
theorem sumF_nonneg (f : Nat → Int) (k : Nat) (h : ∀ i, i < k → 0 ≤ f i) : 0 ≤ sumF f k := by
  induction k with
  | zero => simp [sumF]
  | succ k ih => rw [sumF_succ]; have := ih (fun i hi => h i (by omega)); have := h k (by omega); omega
theorem sumF_one (f : Nat → Int) (k : Nat) (h : ∀ i, i < k → 0 ≤ f i) {i : Nat} (hi : i < k) : f i ≤ sumF f k := by
  induction k with
  | zero => omega
  | succ k ih =>
    rw [sumF_succ]
    by_cases e : i = k
    · subst e; have := sumF_nonneg f i (fun j hj => h j (by omega)); omega
    · have := ih (fun j hj => h j (by omega)) (by omega); have := h k (by omega); omega
theorem sumF_le (f g : Nat → Int) (k : Nat) (h : ∀ i, i < k → f i ≤ g i) : sumF f k ≤ sumF g k := by
  induction k with
  | zero => simp [sumF]
  | succ k ih => rw [sumF_succ, sumF_succ]; have := ih (fun i hi => h i (by omega)); have := h k (by omega); omega
theorem sumF_part (A k : Nat) (f : Nat → Int) (hA : A ≤ k) : sumF (fun a => if a < A then f a else 0) k = sumF f A := by
  rw [← sumF_congr A (f := fun a => if a < A then f a else 0) (fun i hi => by rw [if_pos hi])]
  exact (Huff.sumF_same hA (fun i h1 h2 => by rw [if_neg (by omega)]))

section
variable {n : Nat} {C : Nat → Int}
/-- The lengths of the code within l + 1 bits. -/
def D (n : Nat) (C : Nat → Int) (l a : Nat) : Nat := cnt n C l (2 * n - 2) a

theorem D_kraft (hC : ∀ i, i < n → 1 ≤ C i) (hS : ∀ i j, i ≤ j → j < n → C i ≤ C j) (hn : 1 ≤ n) {l : Nat} (h : n ≤ 2 ^ (l + 1)) : sumF (fun a => 2 ^ (l + 1 - D n C l a)) n = (2 : Int) ^ (l + 1) := by
  have hk := pm_kraft hC hS l (2 * n - 2) (len_ge C hn h)
  have e : sumF (fun a => (2 : Int) ^ (l + 1) - 2 ^ (l + 1 - cnt n C l (2 * n - 2) a)) n + sumF (fun a => 2 ^ (l + 1 - D n C l a)) n = (n : Int) * 2 ^ (l + 1) := by
    rw [← Huff.sumF_add, ← sumF_const]
    refine sumF_congr n (fun a ha => ?_)
    show (2 : Int) ^ (l + 1) - 2 ^ (l + 1 - cnt n C l (2 * n - 2) a) + 2 ^ (l + 1 - cnt n C l (2 * n - 2) a) = _
    omega
  rw [hk] at e
  rw [pow2_succ] at e ⊢
  rw [show ((2 * n - 2 : Nat) : Int) = 2 * ((n : Int) - 1) by omega] at e
  generalize (2 : Int) ^ l = z at e ⊢
  generalize sumF (fun a => (2 : Int) ^ (l + 1 - D n C l a)) n = y at e ⊢
  have h1 : 2 * ((n : Int) - 1) * z = 2 * ((n : Int) * z) - 2 * z := by
    rw [Int.mul_assoc, Int.sub_mul]; omega
  have h2 : (n : Int) * (2 * z) = 2 * ((n : Int) * z) := by rw [Int.mul_left_comm]
  rw [h1, h2] at e
  omega

theorem D_pos (hC : ∀ i, i < n → 1 ≤ C i) (hS : ∀ i j, i ≤ j → j < n → C i ≤ C j) (hn : 2 ≤ n) {l : Nat} (h : n ≤ 2 ^ (l + 1)) {a : Nat} (ha : a < n) : 1 ≤ D n C l a := by
  apply Classical.byContradiction
  intro hc
  have h0 : D n C l a = 0 := by omega
  -- the last of all has no bit either
  have hl : D n C l (n - 1) = 0 := by
    have : D n C l (n - 1) ≤ D n C l a := cnt_mono n C l _ (by omega)
    omega
  have hk := D_kraft hC hS (by omega) h
  obtain ⟨m, rfl⟩ : ∃ m, n = m + 1 := ⟨n - 1, by omega⟩
  rw [sumF_succ, show m + 1 - 1 = m by omega] at *
  rw [hl, Nat.sub_zero] at hk
  have p : ∀ i, i < m → (1 : Int) ≤ 2 ^ (l + 1 - D (m + 1) C l i) := fun i hi => by have := pow2_pos (l + 1 - D (m + 1) C l i); omega
  have h2 := sumF_le (fun _ => 1) (fun a => 2 ^ (l + 1 - D (m + 1) C l a)) m p
  rw [sumF_const] at h2
  generalize (2 : Int) ^ (l + 1) = z at *
  omega
theorem D_le (n : Nat) (C : Nat → Int) (l a : Nat) : D n C l a ≤ l + 1 := cnt_le _ _ _ _ _
theorem D_mono (n : Nat) (C : Nat → Int) (l : Nat) {a b : Nat} (h : a ≤ b) : D n C l b ≤ D n C l a := cnt_mono _ _ _ _ h

/-- What the first t items weigh together. -/
theorem wt_sum (l : Nat) : ∀ t, t ≤ len n C l → sumF (wt n C l) t = sumF (fun a => C a * (cnt n C l t a : Int)) n := by
  have two : ∀ (f : Nat → Int) (p : Nat), sumF (fun k => f (2 * k) + f (2 * k + 1)) p = sumF f (2 * p) := by
    intro f p
    induction p with
    | zero => simp [sumF]
    | succ p ih => rw [sumF_succ, ih, show 2 * (p + 1) = 2 * p + 1 + 1 by omega, sumF_succ, sumF_succ]; omega
  have one : ∀ l t, t ≤ len n C l → sumF (wt n C l) t = sumF C (st n C l t).1 + sumF (Qf n C l) (st n C l t).2 := by
    intro l t
    induction t with
    | zero => intro _; rw [st_zero]; simp [sumF]
    | succ t ih =>
      intro ht
      rw [sumF_succ, ih (by omega)]
      by_cases c : leafAt n C l t = true
      · rw [st_leaf c, wt_leaf c]
        show _ = sumF C ((st n C l t).1 + 1) + sumF (Qf n C l) (st n C l t).2
        rw [sumF_succ]; omega
      · have c' : leafAt n C l t = false := by simpa using c
        rw [st_pack c', wt_pack c']
        show _ = sumF C (st n C l t).1 + sumF (Qf n C l) ((st n C l t).2 + 1)
        rw [sumF_succ]; omega
  induction l with
  | zero =>
    intro t ht
    have hle := st_le n C ht
    have hnp : np n C 0 = 0 := rfl
    rw [one 0 t ht, show (st n C 0 t).2 = 0 by omega]
    have e : sumF (fun a => C a * (cnt n C 0 t a : Int)) n = sumF (fun a => if a < (st n C 0 t).1 then C a else 0) n := by
      refine sumF_congr n (fun a ha => ?_)
      simp only [cnt]
      split <;> simp
    rw [e, sumF_part _ _ _ hle.1]
    simp [sumF]
  | succ l ih =>
    intro t ht
    have hle := st_le n C ht
    have hnp := np_succ n C l
    rw [one (l + 1) t ht]
    have e : sumF (fun a => C a * (cnt n C (l + 1) t a : Int)) n = sumF (fun a => (if a < (st n C (l + 1) t).1 then C a else 0) + C a * (cnt n C l (2 * (st n C (l + 1) t).2) a : Int)) n := by
      refine sumF_congr n (fun a ha => ?_)
      simp only [cnt]
      rw [Int.natCast_add, Int.mul_add]
      congr 1
      split <;> simp
    rw [e, Huff.sumF_add, sumF_part _ _ _ hle.1, ← ih _ (by omega), ← two]
    congr 1
    exact sumF_congr _ (fun k hk => Qf_succ n C l k)

theorem wt_le (hC : ∀ i, i < n → 1 ≤ C i) (l : Nat) {t : Nat} (ht : t < len n C l) : wt n C l t ≤ (l + 1) * sumF C n := by
  have h1 := sumF_one (wt n C l) (len n C l) (fun i hi => by have := wt_pos hC l i hi; omega) ht
  rw [wt_sum l _ (Nat.le_refl _)] at h1
  refine Int.le_trans h1 ?_
  have h2 : sumF (fun a => C a * (cnt n C l (len n C l) a : Int)) n ≤ sumF (fun a => C a * ((l : Int) + 1)) n := by
    refine sumF_le _ _ n (fun i hi => ?_)
    have hc := cnt_le n C l (len n C l) i
    exact Int.mul_le_mul_of_nonneg_left (by omega) (by have := hC i hi; omega)
  refine Int.le_trans h2 (Int.le_of_eq ?_)
  have e : ∀ k, sumF (fun a => C a * ((l : Int) + 1)) k = ((l : Int) + 1) * sumF C k := by
    intro k
    induction k with
    | zero => simp [sumF]
    | succ k ih => rw [sumF_succ, sumF_succ, ih, Int.mul_add ((l : Int) + 1) (sumF C k) (C k), Int.mul_comm (C k)]
  exact e n

/-- How often the a-th leaf lies in the t-th item of level l. -/
def lc (n : Nat) (C : Nat → Int) : Nat → Nat → Nat → Nat
  | 0, t, a => if (st n C 0 t).1 = a then 1 else 0
  | l + 1, t, a => if leafAt n C (l + 1) t then (if (st n C (l + 1) t).1 = a then 1 else 0) else lc n C l (2 * (st n C (l + 1) t).2) a + lc n C l (2 * (st n C (l + 1) t).2 + 1) a

theorem leaf_zero {t : Nat} (ht : t < len n C 0) : leafAt n C 0 t = true := by
  have hle := st_le n C (l := 0) (t := t) (by omega)
  have hnp : np n C 0 = 0 := rfl
  exact lf_true.2 (.inl (by omega))

theorem cnt_succ (l : Nat) : ∀ t a, t < len n C l → cnt n C l (t + 1) a = cnt n C l t a + lc n C l t a := by
  induction l with
  | zero =>
    intro t a ht
    simp only [cnt, lc]
    rw [st_leaf (leaf_zero ht)]
    split <;> split <;> split <;> omega
  | succ l ih =>
    intro t a ht
    have hle := st_le n C (l := l + 1) (t := t) (by omega)
    have hnp := np_succ n C l
    simp only [cnt, lc]
    by_cases c : leafAt n C (l + 1) t = true
    · rw [st_leaf c, if_pos c]
      show (if a < (st n C (l + 1) t).1 + 1 then 1 else 0) + cnt n C l (2 * (st n C (l + 1) t).2) a = _
      split <;> split <;> split <;> omega
    · have c' : leafAt n C (l + 1) t = false := by simpa using c
      have hne := (lf_false.1 c').1
      rw [st_pack c', if_neg c]
      have e1 := ih (2 * (st n C (l + 1) t).2) a (by omega)
      have e2 := ih (2 * (st n C (l + 1) t).2 + 1) a (by omega)
      show (if a < (st n C (l + 1) t).1 then 1 else 0) + cnt n C l (2 * ((st n C (l + 1) t).2 + 1)) a = _
      rw [show 2 * ((st n C (l + 1) t).2 + 1) = 2 * (st n C (l + 1) t).2 + 1 + 1 by omega, e2, e1]
      omega

theorem leaf_lt {l t : Nat} (ht : t < len n C l) (h : leafAt n C l t = true) : (st n C l t).1 < n := by
  have hs := st_sum n C l t
  have hle := st_le n C (l := l) (t := t) (by omega)
  have hl : len n C l = n + np n C l := rfl
  rcases lf_true.1 h with h1 | h1
  · omega
  · exact h1.1
theorem pack_lt {l t : Nat} (ht : t < len n C (l + 1)) (h : leafAt n C (l + 1) t = false) : 2 * (st n C (l + 1) t).2 + 1 < len n C l := by
  have hle := st_le n C (l := l + 1) (t := t) (by omega)
  have hnp := np_succ n C l
  have hne := (lf_false.1 h).1
  omega
end
end Go.Proofs.Qxb6604297a.PM
