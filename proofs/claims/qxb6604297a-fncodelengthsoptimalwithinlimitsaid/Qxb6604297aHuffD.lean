/-
  The depths of the finished tree, in plain words.
-/
import Derived.Test.Qxb6604297aHuff
set_option linter.unusedVariables false
namespace Go.Proofs.Qxb6604297a.Huff

/-- The depths are right from node i0 on. -/
structure Dep (n : Nat) (P D : List Int) (i0 : Nat) : Prop where
  len : D.length = 2 * n - 1
  root : D.getD (2 * n - 2) 0 = 0
  step : ∀ j, i0 ≤ j → j < 2 * n - 2 → D.getD j 0 = D.getD (P.getD j 0).toNat 0 + 1

theorem up_ind (N : Nat) (p : Nat → Prop) (h : ∀ j, j ≤ N → (∀ k, j < k → k ≤ N → p k) → p j) : ∀ j, j ≤ N → p j := by
  have key : ∀ d j, j ≤ N → N - j ≤ d → p j := by
    intro d
    induction d with
    | zero => intro j hj hd; exact h j hj (fun k h1 h2 => by omega)
    | succ d ih => intro j hj hd; exact h j hj (fun k h1 h2 => ih k h2 (by omega))
  intro j hj
  exact key (N - j) j hj (Nat.le_refl _)

section
variable {n : Nat} {C : Nat → Int} {W P D : List Int} {i0 : Nat}

theorem par_nat (T : Tree n C W P) {x : Nat} (hx : x < 2 * n - 2) : ∃ p : Nat, P.getD x 0 = p ∧ (P.getD x 0).toNat = p ∧ n ≤ p ∧ p ≤ 2 * n - 2 ∧ x < p := by
  have h := T.par x hx
  exact ⟨(P.getD x 0).toNat, by omega, rfl, by omega, by omega, by omega⟩

theorem dep_nonneg (T : Tree n C W P) (d : Dep n P D i0) (hn : 2 ≤ n) : ∀ j, j ≤ 2 * n - 2 → i0 ≤ j → 0 ≤ D.getD j 0 := by
  refine up_ind (2 * n - 2) _ ?_
  intro j hj ih h0
  by_cases e : j = 2 * n - 2
  · rw [e, d.root]; exact Int.le_refl _
  · obtain ⟨p, h1, h2, h3, h4, h5⟩ := par_nat T (show j < 2 * n - 2 by omega)
    rw [d.step j h0 (by omega), h2]
    have := ih p h5 h4 (by omega)
    omega

theorem dep_top (T : Tree n C W P) (d : Dep n P D i0) (hn : 2 ≤ n) : ∀ j, j ≤ 2 * n - 2 → i0 ≤ j → n ≤ j → D.getD j 0 ≤ (2 * n - 2 - j : Nat) := by
  refine up_ind (2 * n - 2) _ ?_
  intro j hj ih h0 hnj
  by_cases e : j = 2 * n - 2
  · rw [e, d.root]; omega
  · obtain ⟨p, h1, h2, h3, h4, h5⟩ := par_nat T (show j < 2 * n - 2 by omega)
    rw [d.step j h0 (by omega), h2]
    have := ih p h5 h4 (by omega) h3
    omega

theorem dep_top_leaf (T : Tree n C W P) (d : Dep n P D i0) (hn : 2 ≤ n) {i : Nat} (hi : i < n) (h0 : i0 ≤ i) : D.getD i 0 ≤ (n - 1 : Nat) := by
  obtain ⟨p, h1, h2, h3, h4, h5⟩ := par_nat T (show i < 2 * n - 2 by omega)
  rw [d.step i h0 (by omega), h2]
  have := dep_top T d hn p h4 (by omega) h3
  omega

theorem dep_mono_tree (T : Tree n C W P) (d : Dep n P D i0) (hn : 2 ≤ n) : ∀ j, j ≤ 2 * n - 2 → ∀ i, i0 ≤ i → n ≤ i → i ≤ j → D.getD j 0 ≤ D.getD i 0 := by
  refine up_ind (2 * n - 2) _ ?_
  intro j hj ih i h0 hni hij
  by_cases e : j = 2 * n - 2
  · rw [e, d.root]; exact dep_nonneg T d hn i (by omega) h0
  · obtain ⟨p, h1, h2, h3, h4, h5⟩ := par_nat T (show j < 2 * n - 2 by omega)
    obtain ⟨q, g1, g2, g3, g4, g5⟩ := par_nat T (show i < 2 * n - 2 by omega)
    rw [d.step j (by omega) (by omega), h2, d.step i h0 (by omega), g2]
    have hm := T.monP i j hij (by omega) (.inr hni)
    have := ih p h5 h4 q (by omega) g3 (by omega)
    omega

theorem dep_mono_leaf (T : Tree n C W P) (d : Dep n P D i0) (hn : 2 ≤ n) {i j : Nat} (h0 : i0 ≤ i) (hij : i ≤ j) (hj : j < n) : D.getD j 0 ≤ D.getD i 0 := by
  obtain ⟨p, h1, h2, h3, h4, h5⟩ := par_nat T (show j < 2 * n - 2 by omega)
  obtain ⟨q, g1, g2, g3, g4, g5⟩ := par_nat T (show i < 2 * n - 2 by omega)
  rw [d.step j (by omega) (by omega), h2, d.step i h0 (by omega), g2]
  have hm := T.monP i j hij (by omega) (.inl hj)
  have := dep_mono_tree T d hn p h4 q (by omega) g3 (by omega)
  omega

/-- The two lightest leaves are brothers. -/
theorem first_two (T : Tree n C W P) (hn : 2 ≤ n) : P.getD 0 0 = n ∧ P.getD 1 0 = n := by
  obtain ⟨a, b, hne, ha, hb, h1, h2, _⟩ := T.kids n (Nat.le_refl _) (by omega)
  have pa := T.par a ha
  have pb := T.par b hb
  have p0 := T.par 0 (by omega)
  have p1 := T.par 1 (by omega)
  have m0 := T.monP 0 a (by omega) ha (.inl (by omega))
  have m1 : P.getD 1 0 ≤ n := by
    by_cases e : a = 0
    · have := T.monP 1 b (by omega) hb (.inl (by omega)); omega
    · have := T.monP 1 a (by omega) ha (.inl (by omega)); omega
  omega

/-- A node's grandparent weighs twice as much, or more. -/
theorem grand (T : Tree n C W P) {x p g : Nat} (hx : x < 2 * n - 2) (hp : P.getD x 0 = p) (hp2 : p < 2 * n - 2) (hg : P.getD p 0 = g) : 2 * W.getD x 0 ≤ W.getD g 0 := by
  have hxp := T.par x hx
  have hpg := T.par p hp2
  obtain ⟨a, b, hne, ha, hb, h1, h2, h3⟩ := T.kids g (by omega) (by omega)
  have ma := T.mon x a hx ha (by omega)
  have mb := T.mon x b hx hb (by omega)
  omega
theorem root_weight (T : Tree n C W P) : W.getD (2 * n - 2) 0 = sumF C n := by
  have h := T.sums (fun i => W.getD i 0) (fun _ => 0) (fun a b m _ _ _ _ _ _ hw => by show _ = _ + 0; omega)
  have e : sumF (fun i => W.getD i 0) n = sumF C n := sumF_congr n (fun i hi => T.lw i hi)
  rw [e] at h
  have e2 : ∀ k, sumF (fun _ => 0) k = 0 := by
    intro k; induction k with
    | zero => rfl
    | succ k ih => rw [sumF_succ, ih]; rfl
  rw [e2] at h
  simpa using h.symm

theorem pow2_pos (k : Nat) : (1 : Int) ≤ 2 ^ k := by
  have : (0 : Int) < 2 ^ k := Int.pow_pos (by omega)
  omega
theorem pow2_succ (k : Nat) : (2 : Int) ^ (k + 1) = 2 * 2 ^ k := by rw [Int.pow_succ]; omega
theorem pow2_mono {a b : Nat} (h : a ≤ b) : (2 : Int) ^ a ≤ 2 ^ b := by
  induction b with
  | zero => have : a = 0 := by omega
            rw [this]; exact Int.le_refl _
  | succ b ih =>
    by_cases e : a = b + 1
    · rw [e]; exact Int.le_refl _
    · have := ih (by omega)
      have := pow2_pos b
      rw [pow2_succ]; omega
theorem pow2_lt {a b : Nat} (h : (2 : Int) ^ a ≤ 2 ^ b) : a ≤ b := by
  apply Classical.byContradiction
  intro hc
  have h1 : (2 : Int) ^ (b + 1) ≤ 2 ^ a := pow2_mono (by omega)
  rw [pow2_succ] at h1
  have := pow2_pos b
  omega

theorem weight_dep (T : Tree n C W P) (d : Dep n P D i0) (hn : 2 ≤ n) : ∀ j, j ≤ 2 * n - 2 → i0 ≤ j → 2 ^ ((D.getD j 0).toNat / 2) * W.getD j 0 ≤ W.getD (2 * n - 2) 0 := by
  refine up_ind (2 * n - 2) _ ?_
  intro j hj ih h0
  by_cases e : j = 2 * n - 2
  · rw [e, d.root]; simp
  · obtain ⟨p, h1, h2, h3, h4, h5⟩ := par_nat T (show j < 2 * n - 2 by omega)
    have e1 := d.step j h0 (by omega)
    rw [h2] at e1
    by_cases e2 : p = 2 * n - 2
    · rw [e1, e2, d.root]
      have := T.top j (by omega)
      simpa using this
    · obtain ⟨q, g1, g2, g3, g4, g5⟩ := par_nat T (show p < 2 * n - 2 by omega)
      have e3 := d.step p (by omega) (by omega)
      rw [g2] at e3
      have hq := ih q (by omega) g4 (by omega)
      have hgr := grand T (show j < 2 * n - 2 by omega) h1 (by omega) g1
      have hq0 := dep_nonneg T d hn q g4 (by omega)
      have e4 : (D.getD j 0).toNat / 2 = (D.getD q 0).toNat / 2 + 1 := by omega
      rw [e4, pow2_succ]
      have hp := pow2_pos ((D.getD q 0).toNat / 2)
      calc 2 * 2 ^ ((D.getD q 0).toNat / 2) * W.getD j 0 = 2 ^ ((D.getD q 0).toNat / 2) * (2 * W.getD j 0) := by
            rw [Int.mul_comm 2 (2 ^ _), Int.mul_assoc]
        _ ≤ 2 ^ ((D.getD q 0).toNat / 2) * W.getD q 0 := Int.mul_le_mul_of_nonneg_left hgr (by omega)
        _ ≤ _ := hq

theorem dep_bound (T : Tree n C W P) (d : Dep n P D i0) (hn : 2 ≤ n) (hC : sumF C n ≤ 1125899906842624) {j : Nat} (hj : j ≤ 2 * n - 2) (h0 : i0 ≤ j) : D.getD j 0 ≤ 101 := by
  have h := weight_dep T d hn j hj h0
  rw [root_weight T] at h
  have hw := T.pos j (by omega)
  have hp := pow2_pos ((D.getD j 0).toNat / 2)
  have h1 : (2 : Int) ^ ((D.getD j 0).toNat / 2) ≤ 2 ^ ((D.getD j 0).toNat / 2) * W.getD j 0 := by
    have := Int.mul_le_mul_of_nonneg_left hw (show (0 : Int) ≤ 2 ^ ((D.getD j 0).toNat / 2) by omega)
    simpa using this
  have h2 : (2 : Int) ^ ((D.getD j 0).toNat / 2) ≤ 2 ^ 50 := by
    have e : (2 : Int) ^ 50 = 1125899906842624 := by decide
    omega
  have := pow2_lt h2
  omega

/-- Kraft's sum over the leaves is one. -/
theorem kraft (T : Tree n C W P) (d : Dep n P D 0) (hn : 2 ≤ n) (E : Nat) (hE : ∀ j, j ≤ 2 * n - 2 → D.getD j 0 ≤ E) : sumF (fun i => 2 ^ (E - (D.getD i 0).toNat)) n = 2 ^ E := by
  have hs := T.sums (fun i => 2 ^ (E - (D.getD i 0).toNat)) (fun _ => 0) (by
    intro a b m h1 h2 ha hb pa pb _
    have ea := d.step a (by omega) ha
    have eb := d.step b (by omega) hb
    rw [pa, Int.toNat_natCast] at ea
    rw [pb, Int.toNat_natCast] at eb
    have hm := dep_nonneg T d hn m (by omega) (by omega)
    have hEa := hE a (by omega)
    have k1 : E - (D.getD m 0).toNat = (E - (D.getD a 0).toNat) + 1 := by omega
    have k2 : E - (D.getD b 0).toNat = E - (D.getD a 0).toNat := by omega
    show (2 : Int) ^ (E - (D.getD a 0).toNat) + 2 ^ (E - (D.getD b 0).toNat) = 2 ^ (E - (D.getD m 0).toNat) + 0
    rw [k1, k2, pow2_succ]; omega)
  have e2 : ∀ k, sumF (fun _ => 0) k = 0 := by
    intro k; induction k with
    | zero => rfl
    | succ k ih => rw [sumF_succ, ih]; rfl
  rw [e2, d.root] at hs
  simpa using hs

/-- The cost of the code is the sum of the trees' weights. -/
theorem cost (T : Tree n C W P) (d : Dep n P D 0) : sumF (fun i => C i * D.getD i 0) n = sumF (fun k => W.getD (n + k) 0) (n - 1) := by
  have hs := T.sums (fun i => W.getD i 0 * D.getD i 0) (fun m => W.getD m 0) (by
    intro a b m h1 h2 ha hb pa pb hw
    have ea := d.step a (by omega) ha
    have eb := d.step b (by omega) hb
    rw [pa, Int.toNat_natCast] at ea
    rw [pb, Int.toNat_natCast] at eb
    show W.getD a 0 * D.getD a 0 + W.getD b 0 * D.getD b 0 = W.getD m 0 * D.getD m 0 + W.getD m 0
    rw [ea, eb, hw, Int.mul_add, Int.mul_add, Int.add_mul]
    omega)
  rw [d.root] at hs
  have e : sumF (fun i => W.getD i 0 * D.getD i 0) n = sumF (fun i => C i * D.getD i 0) n := sumF_congr n (fun i hi => by rw [T.lw i hi])
  rw [e] at hs
  simpa using hs

theorem dep_step (T : Tree n C W P) {i p : Nat} (d : Dep n P D (i + 1)) (hi : i < 2 * n - 2) (hp : P.getD i 0 = (p : Int)) : Dep n P (D.set i (D.getD p 0 + 1)) i := by
  have hset : ∀ j, (D.set i (D.getD p 0 + 1)).getD j 0 = if j = i then D.getD p 0 + 1 else D.getD j 0 := fun j => getD_set D i j _ (by rw [d.len]; omega)
  obtain ⟨p', h1, h2, h3, h4, h5⟩ := par_nat T hi
  have epp : p' = p := by omega
  subst epp
  refine ⟨by rw [List.length_set]; exact d.len, by rw [hset, if_neg (by omega)]; exact d.root, ?_⟩
  intro j hj hj2
  by_cases e : j = i
  · subst e
    rw [hset, if_pos rfl, h2, hset, if_neg (by omega)]
  · obtain ⟨q, g1, g2, g3, g4, g5⟩ := par_nat T hj2
    rw [hset, if_neg e, g2, hset, if_neg (by omega), ← g2]
    exact d.step j (by omega) hj2

theorem sumF_ge (f : Nat → Int) (n : Nat) (h : ∀ i, i < n → 1 ≤ f i) : (n : Int) ≤ sumF f n := by
  induction n with
  | zero => simp [sumF]
  | succ n ih =>
    have := ih (fun i hi => h i (by omega))
    have := h n (by omega)
    rw [sumF_succ]; omega

/-- All that the law on the longest length says. -/
theorem longest_laws (T : Tree n C W P) (d : Dep n P D 0) (hn : 2 ≤ n) : (∀ i, i < n → D.getD i 0 ≤ D.getD 0 0) ∧ D.getD 1 0 = D.getD 0 0 ∧ 1 ≤ D.getD 0 0 ∧ D.getD 0 0 ≤ (n - 1 : Nat) ∧ (n : Int) ≤ 2 ^ (D.getD 0 0).toNat := by
  obtain ⟨f0, f1⟩ := first_two T hn
  have e0 := d.step 0 (by omega) (by omega)
  have e1 := d.step 1 (by omega) (by omega)
  rw [f0] at e0
  rw [f1] at e1
  have hnn := dep_nonneg T d hn n (by omega) (by omega)
  rw [Int.toNat_natCast] at e0 e1
  have hmono : ∀ i, i < n → D.getD i 0 ≤ D.getD 0 0 := fun i hi => dep_mono_leaf T d hn (by omega) (by omega) hi
  have hall : ∀ j, j ≤ 2 * n - 2 → D.getD j 0 ≤ ((D.getD 0 0).toNat : Nat) := by
    intro j hj
    by_cases hjn : j < n
    · have := hmono j hjn; omega
    · have := dep_mono_tree T d hn j hj n (by omega) (Nat.le_refl _) (by omega)
      omega
  have hk := kraft T d hn (D.getD 0 0).toNat hall
  have hge := sumF_ge (fun i => (2 : Int) ^ ((D.getD 0 0).toNat - (D.getD i 0).toNat)) n (fun i _ => pow2_pos _)
  rw [hk] at hge
  exact ⟨hmono, by omega, by omega, dep_top_leaf T d hn (by omega) (by omega), hge⟩
end
end Go.Proofs.Qxb6604297a.Huff
