/-
  Package-merge's cost is the least: in plain words.
-/
import Derived.Test.Qxb6604297aPM2
set_option linter.unusedVariables false
namespace Go.Proofs.Qxb6604297a
open Huff (sumF sumF_succ sumF_congr)

/-- The width of r's first m levels, in units of the deepest. -/
def wsum (r : Nat → Nat) : Nat → Nat
  | 0 => 0
  | m + 1 => 2 * wsum r m + r m

/-- What a way down costs: C ascending, r e symbols are left at depth e. -/
def wcost (C : Nat → Int) (r : Nat → Nat) (m : Nat) : Int := sumF (fun e => sumF C (r e)) m

/-- No way down, of at most L levels, costs less than c. -/
def Least (n L : Nat) (C : Nat → Int) (c : Int) : Prop :=
  ∀ (m : Nat) (r : Nat → Nat), m ≤ L → (∀ e, e < m → r e ≤ n) → (∀ e f, e ≤ f → f < m → r f ≤ r e) → (n - 1) * 2 ^ m ≤ wsum r m → c ≤ wcost C r m

namespace PM
variable {n : Nat} {C : Nat → Int}

theorem wtOf_step (np : Nat) (Q : Nat → Int) (hS : ∀ i j, i ≤ j → j < n → C i ≤ C j) (hQ : ∀ i j, i ≤ j → j < np → Q i ≤ Q j) (s : Nat) (hs : s + 1 < n + np) : wtOf n np C Q s ≤ wtOf n np C Q (s + 1) := by
  have hsum := mst_sum n np C Q s
  have hsum1 := mst_sum n np C Q (s + 1)
  have hle := mst_le n np C Q (s + 1) (by omega)
  have hle2 := mst_le n np C Q (s + 1 + 1) (by omega)
  unfold wtOf
  by_cases h1 : lf n np C Q (mst n np C Q s).1 (mst n np C Q s).2 = true
  · have e1 := mst_leaf h1
    rw [if_pos h1]
    by_cases h2 : lf n np C Q (mst n np C Q (s + 1)).1 (mst n np C Q (s + 1)).2 = true
    · have e2 := mst_leaf h2
      rw [if_pos h2]
      rw [e2] at hle2
      rw [e1] at hle2 ⊢
      exact hS _ _ (by simp) (by simp at hle2; simp; omega)
    · rw [if_neg h2]
      have h2' : lf n np C Q (mst n np C Q (s + 1)).1 (mst n np C Q (s + 1)).2 = false := by simpa using h2
      have f2 := (lf_false.1 h2').1
      rw [e1] at f2 ⊢
      rcases lf_true.1 h1 with h | h
      · exact absurd h f2
      · exact h.2
  · have h1' : lf n np C Q (mst n np C Q s).1 (mst n np C Q s).2 = false := by simpa using h1
    have e1 := mst_pack h1'
    have f1 := lf_false.1 h1'
    rw [if_neg h1]
    by_cases h2 : lf n np C Q (mst n np C Q (s + 1)).1 (mst n np C Q (s + 1)).2 = true
    · have e2 := mst_leaf h2
      rw [if_pos h2]
      rw [e2] at hle2
      rw [e1] at hle2 ⊢
      simp at hle2
      have := f1.2 (by omega)
      simp
      omega
    · have h2' : lf n np C Q (mst n np C Q (s + 1)).1 (mst n np C Q (s + 1)).2 = false := by simpa using h2
      have e2 := mst_pack h2'
      rw [if_neg h2]
      rw [e2] at hle2
      rw [e1] at hle2 ⊢
      exact hQ _ _ (by simp) (by simp at hle2; simp; omega)

theorem asc_of_step (f : Nat → Int) (N : Nat) (h : ∀ s, s + 1 < N → f s ≤ f (s + 1)) : ∀ i j, i ≤ j → j < N → f i ≤ f j := by
  intro i j hij
  induction j with
  | zero => intro _; have : i = 0 := by omega
            rw [this]; exact Int.le_refl _
  | succ j ih =>
    intro hj
    by_cases e : i = j + 1
    · rw [e]; exact Int.le_refl _
    · exact Int.le_trans (ih (by omega) (by omega)) (h j hj)

theorem wt_asc (hS : ∀ i j, i ≤ j → j < n → C i ≤ C j) (l : Nat) : (∀ i j, i ≤ j → j < np n C l → Qf n C l i ≤ Qf n C l j) ∧ ∀ i j, i ≤ j → j < len n C l → wt n C l i ≤ wt n C l j := by
  induction l with
  | zero =>
    have hQ : ∀ i j, i ≤ j → j < np n C 0 → Qf n C 0 i ≤ Qf n C 0 j := fun i j _ hj => by simp [np] at hj
    exact ⟨hQ, asc_of_step _ _ (fun s hs => wtOf_step _ _ hS hQ s hs)⟩
  | succ l ih =>
    have hQ : ∀ i j, i ≤ j → j < np n C (l + 1) → Qf n C (l + 1) i ≤ Qf n C (l + 1) j := by
      intro i j hij hj
      rw [np_succ] at hj
      rw [Qf_succ, Qf_succ]
      have h1 := ih.2 (2 * i) (2 * j) (by omega) (by omega)
      have h2 := ih.2 (2 * i + 1) (2 * j + 1) (by omega) (by omega)
      omega
    exact ⟨hQ, asc_of_step _ _ (fun s hs => wtOf_step _ _ hS hQ s hs)⟩

/-- Trading m of the one's last for m of the other's next. -/
theorem trade (A B : Nat → Int) {a p : Nat} (m : Nat) (hm : m ≤ p) (h : ∀ i j, a ≤ i → i < a + m → j < p → B j ≤ A i) : sumF A a + sumF B p ≤ sumF A (a + m) + sumF B (p - m) := by
  induction m with
  | zero => exact Int.le_refl _
  | succ m ih =>
    have h1 := ih (by omega) (fun i j h1 h2 h3 => h i j h1 (by omega) h3)
    have h2 := h (a + m) (p - (m + 1)) (by omega) (by omega) (by omega)
    have e : p - m = (p - (m + 1)) + 1 := by omega
    rw [e, sumF_succ] at h1
    have e2 : a + (m + 1) = (a + m) + 1 := by omega
    rw [e2, sumF_succ]
    omega

theorem merge_min (hS : ∀ i j, i ≤ j → j < n → C i ≤ C j) (l : Nat) {t k q : Nat} (ht : t ≤ len n C l) (hk : k ≤ n) (hq : q ≤ np n C l) (hkq : k + q = t) :
    sumF C (st n C l t).1 + sumF (Qf n C l) (st n C l t).2 ≤ sumF C k + sumF (Qf n C l) q := by
  have hQ := (wt_asc hS l).1
  have hsum := st_sum n C l t
  have hle := st_le n C ht
  by_cases h : (st n C l t).1 ≤ k
  · have hx := trade C (Qf n C l) (a := (st n C l t).1) (p := (st n C l t).2) (k - (st n C l t).1) (by omega) (by
      intro i j h1 h2 h3
      obtain ⟨s, hs, e1, e2⟩ := pack_pos n (np n C l) C (Qf n C l) h3
      have hm := (mst_mono n (np n C l) C (Qf n C l) (Nat.le_of_lt hs)).1
      have hm' : (mst n (np n C l) C (Qf n C l) s).1 ≤ (st n C l t).1 := hm
      have h4 := (lf_false.1 e2).2 (by omega)
      rw [e1] at h4
      have := hS (mst n (np n C l) C (Qf n C l) s).1 i (by omega) (by omega)
      omega)
    have e1 : (st n C l t).1 + (k - (st n C l t).1) = k := by omega
    have e2 : (st n C l t).2 - (k - (st n C l t).1) = q := by omega
    rw [e1, e2] at hx
    exact hx
  · have hx := trade (Qf n C l) C (a := (st n C l t).2) (p := (st n C l t).1) (q - (st n C l t).2) (by omega) (by
      intro i j h1 h2 h3
      obtain ⟨s, hs, e1, e2⟩ := leaf_pos n (np n C l) C (Qf n C l) h3
      have hm := (mst_mono n (np n C l) C (Qf n C l) (Nat.le_of_lt hs)).2
      have hm' : (mst n (np n C l) C (Qf n C l) s).2 ≤ (st n C l t).2 := hm
      rcases lf_true.1 e2 with h4 | h4
      · omega
      · rw [e1] at h4
        have := hQ (mst n (np n C l) C (Qf n C l) s).2 i (by omega) (by omega)
        omega)
    have e1 : (st n C l t).2 + (q - (st n C l t).2) = q := by omega
    have e2 : (st n C l t).1 - (q - (st n C l t).2) = k := by omega
    rw [e1, e2] at hx
    omega

theorem wt_split (l : Nat) (t : Nat) : sumF (wt n C l) t = sumF C (st n C l t).1 + sumF (Qf n C l) (st n C l t).2 := by
  induction t with
  | zero => rw [st_zero]; rfl
  | succ t ih =>
    rw [sumF_succ, ih]
    by_cases h : leafAt n C l t = true
    · rw [st_leaf h, wt_leaf h]
      show _ = sumF C ((st n C l t).1 + 1) + sumF (Qf n C l) (st n C l t).2
      rw [sumF_succ]
      omega
    · have h' : leafAt n C l t = false := by simpa using h
      rw [st_pack h', wt_pack h']
      show _ = sumF C (st n C l t).1 + sumF (Qf n C l) ((st n C l t).2 + 1)
      rw [sumF_succ]
      omega
theorem Q_sum (l : Nat) (q : Nat) : sumF (Qf n C (l + 1)) q = sumF (wt n C l) (2 * q) := by
  induction q with
  | zero => rfl
  | succ q ih =>
    rw [sumF_succ, ih, Qf_succ, show 2 * (q + 1) = 2 * q + 1 + 1 by omega, sumF_succ, sumF_succ]
    omega
theorem pre_mono (hC : ∀ i, i < n → 1 ≤ C i) {a b : Nat} (h : a ≤ b) (hb : b ≤ n) : sumF C a ≤ sumF C b := by
  induction b with
  | zero => have : a = 0 := by omega
            rw [this]; exact Int.le_refl _
  | succ b ih =>
    by_cases e : a = b + 1
    · rw [e]; exact Int.le_refl _
    · have := ih (by omega) (by omega)
      have := hC b (by omega)
      rw [sumF_succ]
      omega

/-- The coins of level 0 .. l, k j of them at level j. -/
def coins (k : Nat → Nat) : Nat → Nat
  | 0 => k 0
  | l + 1 => coins k l + k (l + 1) * 2 ^ (l + 1)

theorem pm_least (hC : ∀ i, i < n → 1 ≤ C i) (hS : ∀ i j, i ≤ j → j < n → C i ≤ C j) (k : Nat → Nat) (hk : ∀ j, k j ≤ n) (l : Nat) :
    ∀ t, t * 2 ^ l ≤ coins k l → t ≤ len n C l ∧ sumF (wt n C l) t ≤ sumF (fun j => sumF C (k j)) (l + 1) := by
  induction l with
  | zero =>
    intro t ht
    simp only [coins, Nat.pow_zero, Nat.mul_one] at ht
    have hk0 := hk 0
    have hl : t ≤ len n C 0 := by show t ≤ n + 0; omega
    refine ⟨hl, ?_⟩
    rw [wt_split]
    have h1 := merge_min hS 0 hl (k := t) (q := 0) (by omega) (Nat.zero_le _) rfl
    have h2 := pre_mono hC ht hk0
    have e0 : sumF (Qf n C 0) 0 = 0 := rfl
    have e1 : sumF (fun j => sumF C (k j)) (0 + 1) = 0 + sumF C (k 0) := rfl
    omega
  | succ l ih =>
    intro t ht
    simp only [coins] at ht
    have hk1 := hk (l + 1)
    obtain ⟨kk, hkk⟩ : ∃ kk, kk = min t (k (l + 1)) := ⟨_, rfl⟩
    obtain ⟨t', ht'⟩ : ∃ t', t' = t - kk := ⟨_, rfl⟩
    have hw : 2 * t' * 2 ^ l ≤ coins k l := by
      by_cases c : t ≤ k (l + 1)
      · have : t' = 0 := by omega
        rw [this]; omega
      · have e : t = t' + k (l + 1) := by omega
        rw [e, Nat.add_mul] at ht
        have e2 : 2 * t' * 2 ^ l = t' * 2 ^ (l + 1) := by rw [Nat.pow_succ, Nat.mul_comm 2 t', Nat.mul_assoc, Nat.mul_comm 2 (2 ^ l)]
        omega
    obtain ⟨h1, h2⟩ := ih (2 * t') hw
    have hnp : t' ≤ np n C (l + 1) := by rw [np_succ]; omega
    have hl : t ≤ len n C (l + 1) := by show t ≤ n + np n C (l + 1); omega
    refine ⟨hl, ?_⟩
    have h3 := merge_min hS (l + 1) hl (k := kk) (q := t') (by omega) hnp (by omega)
    rw [wt_split]
    rw [Q_sum l t'] at h3
    have h4 := pre_mono hC (show kk ≤ k (l + 1) by omega) hk1
    rw [sumF_succ]
    omega

/-! ### the ways down -/
theorem wsum_congr {r s : Nat → Nat} (m : Nat) (h : ∀ e, e < m → r e = s e) : wsum r m = wsum s m := by
  induction m with
  | zero => rfl
  | succ m ih => simp only [wsum]; rw [ih (fun e he => h e (by omega)), h m (by omega)]
/-- Levels counted from below. -/
theorem coins_rev (r : Nat → Nat) (L : Nat) : coins (fun j => r (L - j)) L = wsum r (L + 1) := by
  have key : ∀ (d L : Nat), d ≤ L → coins (fun j => r (L - j)) d + wsum r (L - d) * 2 ^ (d + 1) = wsum r (L + 1) := by
    intro d
    induction d with
    | zero =>
      intro L _
      simp only [coins, wsum, Nat.sub_zero]
      omega
    | succ d ih =>
      intro L hd
      have h1 := ih L (by omega)
      have e : L - d = (L - (d + 1)) + 1 := by omega
      have ew : wsum r (L - d) = 2 * wsum r (L - (d + 1)) + r (L - (d + 1)) := by rw [e]; rfl
      rw [ew] at h1
      simp only [coins]
      rw [Nat.add_mul] at h1
      have e2 : 2 * wsum r (L - (d + 1)) * 2 ^ (d + 1) = wsum r (L - (d + 1)) * 2 ^ (d + 1 + 1) := by
        rw [Nat.pow_succ 2 (d + 1), Nat.mul_comm 2 (wsum r (L - (d + 1))), Nat.mul_assoc, Nat.mul_comm 2 (2 ^ (d + 1))]
      omega
  have h := key L L (Nat.le_refl _)
  rw [Nat.sub_self] at h
  simp only [wsum, Nat.zero_mul, Nat.add_zero] at h ⊢
  exact h
theorem sumF_rev (f : Nat → Int) (L : Nat) : sumF (fun j => f (L - j)) (L + 1) = sumF f (L + 1) := by
  have key : ∀ (d L : Nat), d ≤ L + 1 → sumF (fun j => f (L - j)) d + sumF f (L + 1 - d) = sumF f (L + 1) := by
    intro d
    induction d with
    | zero => intro L _; show 0 + _ = _; rw [Nat.sub_zero]; omega
    | succ d ih =>
      intro L hd
      have h1 := ih L (by omega)
      have e : L + 1 - d = (L + 1 - (d + 1)) + 1 := by omega
      have e3 : L + 1 - (d + 1) = L - d := by omega
      rw [e, sumF_succ, e3] at h1
      rw [sumF_succ, e3]
      omega
  have h := key (L + 1) L (Nat.le_refl _)
  rw [Nat.sub_self] at h
  have : sumF f 0 = 0 := rfl
  omega

/-- PACKAGE-MERGE IS THE LEAST. -/
theorem least (hC : ∀ i, i < n → 1 ≤ C i) (hS : ∀ i j, i ≤ j → j < n → C i ≤ C j) (hn : 1 ≤ n) (L : Nat) : Least n (L + 1) C (sumF (fun a => C a * (D n C L a : Int)) n) := by
  intro m r hm hr _ hw
  obtain ⟨s, hs⟩ : ∃ s : Nat → Nat, s = fun e => if e < m then r e else 0 := ⟨_, rfl⟩
  have hs1 : ∀ e, e < m → s e = r e := fun e he => by rw [hs]; simp [he]
  have hs2 : ∀ e, m ≤ e → s e = 0 := fun e he => by rw [hs]; simp; omega
  have hsn : ∀ e, s e ≤ n := fun e => by
    by_cases c : e < m
    · rw [hs1 e c]; exact hr e c
    · rw [hs2 e (by omega)]; exact Nat.zero_le _
  have hwide : ∀ d, (n - 1) * 2 ^ (m + d) ≤ wsum s (m + d) := by
    intro d
    induction d with
    | zero => rw [Nat.add_zero, wsum_congr m hs1]; exact hw
    | succ d ih =>
      show (n - 1) * 2 ^ (m + d + 1) ≤ 2 * wsum s (m + d) + s (m + d)
      rw [Nat.pow_succ, ← Nat.mul_assoc]
      omega
  have hcost : ∀ d, wcost C s (m + d) = wcost C r m := by
    intro d
    induction d with
    | zero => exact sumF_congr m (fun e he => by rw [hs1 e he])
    | succ d ih =>
      show wcost C s (m + d + 1) = _
      unfold wcost at ih ⊢
      rw [sumF_succ, ih, hs2 (m + d) (by omega)]
      show _ + 0 = _
      omega
  have h1 := hwide (L + 1 - m)
  have h2 := hcost (L + 1 - m)
  rw [show m + (L + 1 - m) = L + 1 by omega] at h1 h2
  obtain ⟨h3, h4⟩ := pm_least hC hS (fun j => s (L - j)) (fun j => hsn _) L (2 * n - 2) (by
    rw [coins_rev]
    have e : (2 * n - 2) * 2 ^ L = (n - 1) * 2 ^ (L + 1) := by
      rw [Nat.pow_succ, show 2 * n - 2 = (n - 1) * 2 by omega, Nat.mul_assoc, Nat.mul_comm 2 (2 ^ L)]
    rw [e]
    exact h1)
  rw [wt_sum L _ h3, sumF_rev (fun e => sumF C (s e)) L] at h4
  rw [← h2]
  exact h4
end PM
end Go.Proofs.Qxb6604297a
