/-
  Kraft's sum, counted length by length, in plain words.
-/
import Derived.Test.Qxb6604297aHuffD
set_option linter.unusedVariables false
namespace Go.Proofs.Qxb6604297a.Huff

theorem sumF_add (f h : Nat → Int) (n : Nat) : sumF (fun i => f i + h i) n = sumF f n + sumF h n := by
  induction n with
  | zero => rfl
  | succ n ih => rw [sumF_succ, sumF_succ, sumF_succ, ih]; omega
theorem sumF_zero (n : Nat) : sumF (fun _ => 0) n = 0 := by
  induction n with
  | zero => rfl
  | succ n ih => rw [sumF_succ, ih]; rfl
theorem sumF_nonneg {f : Nat → Int} {n : Nat} (h : ∀ i, i < n → 0 ≤ f i) : 0 ≤ sumF f n := by
  induction n with
  | zero => exact Int.le_refl _
  | succ n ih => have := ih (fun i hi => h i (by omega)); have := h n (by omega); rw [sumF_succ]; omega
theorem sumF_le {f h : Nat → Int} {n : Nat} (hl : ∀ i, i < n → f i ≤ h i) : sumF f n ≤ sumF h n := by
  induction n with
  | zero => exact Int.le_refl _
  | succ n ih => have := ih (fun i hi => hl i (by omega)); have := hl n (by omega); rw [sumF_succ, sumF_succ]; omega

/-- One term is changed. -/
theorem sumF_one {f h : Nat → Int} {n m : Nat} (hm : m < n) (ho : ∀ i, i < n → i ≠ m → f i = h i) : sumF f n = sumF h n - h m + f m := by
  induction n with
  | zero => omega
  | succ n ih =>
    rw [sumF_succ, sumF_succ]
    by_cases e : m = n
    · subst e
      have := sumF_congr m (fun i hi => ho i (by omega) (by omega))
      omega
    · have := ih (by omega) (fun i hi hne => ho i (by omega) hne)
      have := ho n (by omega) (fun e2 => e e2.symm)
      omega

/-- What is left over at each depth. -/
def Q (per : Nat → Int) : Nat → Int
  | 0 => 1
  | k + 1 => 2 * Q per k - per (k + 1)

theorem Q_sum (per : Nat → Int) (E k : Nat) (hk : k ≤ E) : Q per k * 2 ^ (E - k) = 2 ^ E - sumF (fun i => per (i + 1) * 2 ^ (E - (i + 1))) k := by
  induction k with
  | zero => simp [Q, sumF]
  | succ k ih =>
    have ih := ih (by omega)
    have e : E - k = E - (k + 1) + 1 := by omega
    rw [e, pow2_succ] at ih
    rw [sumF_succ]
    show (2 * Q per k - per (k + 1)) * 2 ^ (E - (k + 1)) = _
    rw [Int.sub_mul]
    have e2 : Q per k * (2 * 2 ^ (E - (k + 1))) = 2 * Q per k * 2 ^ (E - (k + 1)) := by rw [← Int.mul_assoc, Int.mul_comm (Q per k) 2]
    rw [e2] at ih
    omega

/-- Kraft's sum is one: nothing is left over at the deepest depth. -/
theorem Q_done (per : Nat → Int) (E : Nat) (h : sumF (fun i => per (i + 1) * 2 ^ (E - (i + 1))) E = 2 ^ E) : Q per E = 0 := by
  have := Q_sum per E E (Nat.le_refl _)
  rw [h, Nat.sub_self] at this
  simpa using this

/-- The counts by length, as far as the first j lengths say. -/
structure Per (ls per : List Int) (j : Nat) : Prop where
  len : per.length = 256
  nn : ∀ l, 0 ≤ per.getD l 0
  le : ∀ l, per.getD l 0 ≤ j
  sum : ∀ g : Nat → Int, sumF (fun l => per.getD l 0 * g l) 256 = sumF (fun i => if 0 < ls.getD i 0 then g (ls.getD i 0).toNat else 0) j
  zero : per.getD 0 0 = 0

theorem Per.start (ls : List Int) : Per ls (List.replicate 256 0) 0 := by
  have h : ∀ l, (List.replicate 256 (0 : Int)).getD l 0 = 0 := fun l => by
    rw [List.getD_eq_getElem?_getD, List.getElem?_replicate]; split <;> rfl
  refine ⟨List.length_replicate, fun l => by rw [h]; omega, fun l => by rw [h]; omega, fun g => ?_, h 0⟩
  have e : sumF (fun l => (List.replicate 256 (0 : Int)).getD l 0 * g l) 256 = sumF (fun _ => 0) 256 := sumF_congr 256 (fun i _ => by rw [h, Int.zero_mul])
  rw [e, sumF_zero]; rfl

theorem Per.skip {ls per : List Int} {j : Nat} (h : Per ls per j) (hz : ¬ 0 < ls.getD j 0) : Per ls per (j + 1) :=
  ⟨h.len, h.nn, fun l => by have := h.le l; omega, fun g => by rw [h.sum g, sumF_succ, if_neg hz, Int.add_zero], h.zero⟩

theorem Per.hit {ls per : List Int} {j l : Nat} (h : Per ls per j) (hl : ls.getD j 0 = (l : Int)) (h0 : 0 < l) (h255 : l ≤ 255) : Per ls (per.set l (per.getD l 0 + 1)) (j + 1) := by
  have hset : ∀ x, (per.set l (per.getD l 0 + 1)).getD x 0 = if x = l then per.getD l 0 + 1 else per.getD x 0 := fun x => getD_set per l x _ (by rw [h.len]; omega)
  refine ⟨by rw [List.length_set]; exact h.len, ?_, ?_, ?_, by rw [hset, if_neg (by omega)]; exact h.zero⟩
  · intro x; rw [hset]; have := h.nn l; have := h.nn x; split <;> omega
  · intro x; rw [hset]; have := h.le l; have := h.le x; split <;> omega
  · intro g
    rw [sumF_one (h := fun x => per.getD x 0 * g x) (m := l) (by omega) (fun i _ hne => by rw [hset, if_neg hne]), h.sum g, sumF_succ, hl, Int.toNat_natCast, if_pos (by omega), hset, if_pos rfl, Int.add_mul]
    omega

theorem Per.kraft {ls per : List Int} (h : Per ls per ls.length) (hk : sumF (fun i => if 0 < ls.getD i 0 then 2 ^ (255 - (ls.getD i 0).toNat) else 0) ls.length = 2 ^ 255) : Q (fun l => per.getD l 0) 255 = 0 := by
  refine Q_done _ 255 ?_
  have hs := h.sum (fun l => 2 ^ (255 - l))
  rw [hk] at hs
  rw [← hs]
  have shift : ∀ (f : Nat → Int) (n : Nat), sumF f (n + 1) = f 0 + sumF (fun i => f (i + 1)) n := by
    intro f n
    induction n with
    | zero => simp [sumF]
    | succ n ih => rw [sumF_succ, ih, sumF_succ]; omega
  rw [shift (fun l => per.getD l 0 * 2 ^ (255 - l)) 255, h.zero]
  simp
end Go.Proofs.Qxb6604297a.Huff
