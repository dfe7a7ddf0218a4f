/-
  An unordered pool, and the two queues: they merge the same weights. In plain words.
-/
import Derived.Test.Qxb6604297aKraft
set_option linter.unusedVariables false
namespace Go.Proofs.Qxb6604297a.Huff

theorem sumF_same {g : Nat → Int} {lo hi : Nat} (hlh : lo ≤ hi) (h : ∀ i, lo ≤ i → i < hi → g i = 0) : sumF g hi = sumF g lo := by
  induction hi with
  | zero => have : lo = 0 := by omega
            rw [this]
  | succ hi ih =>
    by_cases e : lo = hi + 1
    · rw [e]
    · rw [sumF_succ, ih (by omega) (fun i h1 h2 => h i h1 (by omega)), h hi (by omega) (by omega), Int.add_zero]
theorem sumF_inc {g : Nat → Int} {lo hi : Nat} (hlh : lo ≤ hi) (h : ∀ i, 0 ≤ g i) : sumF g lo ≤ sumF g hi := by
  induction hi with
  | zero => have : lo = 0 := by omega
            rw [this]; exact Int.le_refl _
  | succ hi ih =>
    by_cases e : lo = hi + 1
    · rw [e]; exact Int.le_refl _
    · have := ih (by omega); have := h hi; rw [sumF_succ]; omega
theorem sumF_has {g : Nat → Int} {lo hi i : Nat} (h : ∀ i, 0 ≤ g i) (h1 : lo ≤ i) (h2 : i < hi) : sumF g lo + g i ≤ sumF g hi := by
  have a := sumF_inc h1 h
  have b := sumF_inc (show i + 1 ≤ hi by omega) h
  rw [sumF_succ] at b
  omega

/-- The nodes that are left. -/
def Root (n m leaf tree y : Nat) : Prop := (leaf ≤ y ∧ y < n) ∨ (tree ≤ y ∧ y < m)

/-- The pool's first cnt numbers are the weights of the nodes that are left. -/
def SamePool (X Wf : List Int) (cnt n m leaf tree : Nat) : Prop :=
  ∀ f : Int → Int, sumF (fun i => f (X.getD i 0)) cnt = sumF (fun i => f (Wf.getD i 0)) n - sumF (fun i => f (Wf.getD i 0)) leaf + (sumF (fun i => f (Wf.getD i 0)) m - sumF (fun i => f (Wf.getD i 0)) tree)

theorem minEq {X Wf : List Int} {cnt n m leaf tree j a : Nat} (hM : SamePool X Wf cnt n m leaf tree) (hl : leaf ≤ n) (ht : tree ≤ m) (hj : j < cnt) (hmin : ∀ i, i < cnt → X.getD j 0 ≤ X.getD i 0)
    (ha : Root n m leaf tree a) (hamin : ∀ y, Root n m leaf tree y → Wf.getD a 0 ≤ Wf.getD y 0) : X.getD j 0 = Wf.getD a 0 := by
  have ind0 : ∀ (v : Int) (x : Int), (0 : Int) ≤ (if x = v then 1 else 0) := fun v x => by split <;> omega
  apply Int.le_antisymm
  · -- the root a lies in the pool
    have h := hM (fun x => if x = Wf.getD a 0 then 1 else 0)
    have h1 : 1 ≤ sumF (fun i => if Wf.getD i 0 = Wf.getD a 0 then (1 : Int) else 0) n - sumF (fun i => if Wf.getD i 0 = Wf.getD a 0 then (1 : Int) else 0) leaf + (sumF (fun i => if Wf.getD i 0 = Wf.getD a 0 then (1 : Int) else 0) m - sumF (fun i => if Wf.getD i 0 = Wf.getD a 0 then (1 : Int) else 0) tree) := by
      have i1 := sumF_inc (g := fun i => if Wf.getD i 0 = Wf.getD a 0 then (1 : Int) else 0) hl (fun i => ind0 _ _)
      have i2 := sumF_inc (g := fun i => if Wf.getD i 0 = Wf.getD a 0 then (1 : Int) else 0) ht (fun i => ind0 _ _)
      rcases ha with ⟨h1, h2⟩ | ⟨h1, h2⟩
      · have := sumF_has (g := fun i => if Wf.getD i 0 = Wf.getD a 0 then (1 : Int) else 0) (fun i => ind0 _ _) h1 h2
        simp only [if_true] at this
        omega
      · have := sumF_has (g := fun i => if Wf.getD i 0 = Wf.getD a 0 then (1 : Int) else 0) (fun i => ind0 _ _) h1 h2
        simp only [if_true] at this
        omega
    apply Classical.byContradiction
    intro hc
    have h2 : sumF (fun i => if X.getD i 0 = Wf.getD a 0 then (1 : Int) else 0) cnt = sumF (fun i => if X.getD i 0 = Wf.getD a 0 then (1 : Int) else 0) 0 := by
      refine sumF_same (Nat.zero_le _) ?_
      intro i _ hi
      have := hmin i hi
      have hne : ¬ X.getD i 0 = Wf.getD a 0 := by omega
      rw [if_neg hne]
    have h3 : sumF (fun i => if X.getD i 0 = Wf.getD a 0 then (1 : Int) else 0) 0 = 0 := rfl
    rw [h3] at h2
    rw [h2] at h
    omega
  · have h := hM (fun x => if x = X.getD j 0 then 1 else 0)
    have h1 := sumF_has (g := fun i => if X.getD i 0 = X.getD j 0 then (1 : Int) else 0) (fun i => ind0 _ _) (Nat.zero_le j) hj
    simp only [if_true] at h1
    have h0 : sumF (fun i => if X.getD i 0 = X.getD j 0 then (1 : Int) else 0) 0 = 0 := rfl
    apply Classical.byContradiction
    intro hc
    have hz : ∀ y, Root n m leaf tree y → (if Wf.getD y 0 = X.getD j 0 then (1 : Int) else 0) = 0 := by
      intro y hy
      have := hamin y hy
      have hne : ¬ Wf.getD y 0 = X.getD j 0 := by omega
      rw [if_neg hne]
    have e1 := sumF_same (g := fun i => if Wf.getD i 0 = X.getD j 0 then (1 : Int) else 0) hl (fun i h1 h2 => hz i (.inl ⟨h1, h2⟩))
    have e2 := sumF_same (g := fun i => if Wf.getD i 0 = X.getD j 0 then (1 : Int) else 0) ht (fun i h1 h2 => hz i (.inr ⟨h1, h2⟩))
    omega

theorem takeM {X : List Int} {cnt j : Nat} (hj : j < cnt) (hc : cnt ≤ X.length) (f : Int → Int) :
    sumF (fun i => f ((X.set j (X.getD (cnt - 1) 0)).getD i 0)) (cnt - 1) = sumF (fun i => f (X.getD i 0)) cnt - f (X.getD j 0) := by
  have hset : ∀ i, (X.set j (X.getD (cnt - 1) 0)).getD i 0 = if i = j then X.getD (cnt - 1) 0 else X.getD i 0 := fun i => getD_set X j i _ (by omega)
  obtain ⟨c, rfl⟩ : ∃ c, cnt = c + 1 := ⟨cnt - 1, by omega⟩
  rw [Nat.add_sub_cancel] at hset ⊢
  rw [sumF_succ]
  by_cases e : j = c
  · subst e
    rw [sumF_congr j (fun i hi => by rw [hset, if_neg (by omega)])]
    omega
  · rw [sumF_one (h := fun i => f (X.getD i 0)) (m := j) (by omega) (fun i _ hne => by rw [hset, if_neg hne]), hset, if_pos rfl]
    omega
theorem putM {X : List Int} {p : Nat} {v : Int} (hp : p < X.length) (f : Int → Int) : sumF (fun i => f ((X.set p v).getD i 0)) (p + 1) = sumF (fun i => f (X.getD i 0)) p + f v := by
  have hset : ∀ i, (X.set p v).getD i 0 = if i = p then v else X.getD i 0 := fun i => getD_set X p i _ hp
  rw [sumF_succ, hset, if_pos rfl, sumF_congr p (fun i hi => by rw [hset, if_neg (by omega)])]

theorem pick_sum {n made : Nat} {W : List Int} {leaf tree a l t : Nat} (h : pick n made W leaf tree = (a, l, t)) : (∀ f, sumF f l + sumF f t = sumF f leaf + sumF f tree + f a) ∧ ((a = leaf ∧ l = leaf + 1 ∧ t = tree) ∨ (a = tree ∧ l = leaf ∧ t = tree + 1)) := by
  unfold pick at h
  split at h
  · simp only [Prod.mk.injEq] at h
    obtain ⟨rfl, rfl, rfl⟩ := h
    exact ⟨fun f => by rw [sumF_succ]; omega, .inl ⟨rfl, rfl, rfl⟩⟩
  · simp only [Prod.mk.injEq] at h
    obtain ⟨rfl, rfl, rfl⟩ := h
    exact ⟨fun f => by rw [sumF_succ]; omega, .inr ⟨rfl, rfl, rfl⟩⟩

/-- One round of the pool against one merge of the queues. -/
structure Round (X Wf : List Int) (n m leaf tree leaf' tree' a b : Nat) (cnt : Nat) : Prop where
  first : ∀ j, j < cnt → (∀ i, i < cnt → X.getD j 0 ≤ X.getD i 0) → X.getD j 0 = Wf.getD a 0
  second : ∀ j, j < cnt → (∀ i, i < cnt → X.getD j 0 ≤ X.getD i 0) → ∀ j', j' < cnt - 1 → (∀ i, i < cnt - 1 → (X.set j (X.getD (cnt - 1) 0)).getD j' 0 ≤ (X.set j (X.getD (cnt - 1) 0)).getD i 0) → (X.set j (X.getD (cnt - 1) 0)).getD j' 0 = Wf.getD b 0
  third : ∀ j, j < cnt → (∀ i, i < cnt → X.getD j 0 ≤ X.getD i 0) → ∀ j', j' < cnt - 1 → (∀ i, i < cnt - 1 → (X.set j (X.getD (cnt - 1) 0)).getD j' 0 ≤ (X.set j (X.getD (cnt - 1) 0)).getD i 0) →
    SamePool (((X.set j (X.getD (cnt - 1) 0)).set j' ((X.set j (X.getD (cnt - 1) 0)).getD (cnt - 1 - 1) 0)).set (cnt - 2) (Wf.getD a 0 + Wf.getD b 0)) Wf (cnt - 1) n (m + 1) leaf' tree'

theorem round {X Wf : List Int} {n m : Nat} {C : Nat → Int} {s s' : HS} {a b cnt : Nat} (M : Merge n m C s s' a b) (hI : HI n m m C s.leaf s.tree s.W s.P) (hnm : n ≤ m) (hW : ∀ y, y < m → Wf.getD y 0 = s.W.getD y 0) (hWm : Wf.getD m 0 = Wf.getD a 0 + Wf.getD b 0)
    (hS : SamePool X Wf cnt n m s.leaf s.tree) (h2 : 2 ≤ cnt) (hc : cnt ≤ X.length) : Round X Wf n m s.leaf s.tree s'.leaf s'.tree a b cnt := by
  have hl := hI.hl
  have ht0 := hI.ht0
  have ht := hI.ht
  obtain ⟨l, t, p1, p2, g1, g2, g3, _⟩ := M.mid
  obtain ⟨s1, c1⟩ := pick_sum p1
  obtain ⟨s2, c2⟩ := pick_sum p2
  have hroot : ∀ y, Root n m s.leaf s.tree y → ¬ Con n s.leaf s.tree y ∧ y < m := by
    intro y hy; unfold Root at hy; unfold Con; omega
  have hA : Root n m s.leaf s.tree a := by
    have := M.na; have := M.am; unfold Con at *; unfold Root; omega
  have hAmin : ∀ y, Root n m s.leaf s.tree y → Wf.getD a 0 ≤ Wf.getD y 0 := by
    intro y hy
    rw [hW a M.am, hW y (hroot y hy).2]
    exact M.mina y (hroot y hy).1 (hroot y hy).2
  have hB : Root n m l t b := by
    have := M.nb; have := M.bm; have := M.ab; unfold Con at *; unfold Root; omega
  have hBmin : ∀ y, Root n m l t y → Wf.getD b 0 ≤ Wf.getD y 0 := by
    intro y hy
    have h1 : ¬ Con n s.leaf s.tree y ∧ y < m ∧ y ≠ a := by unfold Root at hy; unfold Con; omega
    rw [hW b M.bm, hW y h1.2.1]
    exact M.minb y h1.1 h1.2.1 h1.2.2
  have first : ∀ j, j < cnt → (∀ i, i < cnt → X.getD j 0 ≤ X.getD i 0) → X.getD j 0 = Wf.getD a 0 := fun j hj hmin => minEq hS hl ht hj hmin hA hAmin
  have pool2 : ∀ j, j < cnt → (∀ i, i < cnt → X.getD j 0 ≤ X.getD i 0) → SamePool (X.set j (X.getD (cnt - 1) 0)) Wf (cnt - 1) n m l t := by
    intro j hj hmin f
    rw [takeM hj hc f, hS f, first j hj hmin]
    have := s1 (fun i => f (Wf.getD i 0))
    omega
  have second : ∀ j, j < cnt → (∀ i, i < cnt → X.getD j 0 ≤ X.getD i 0) → ∀ j', j' < cnt - 1 → (∀ i, i < cnt - 1 → (X.set j (X.getD (cnt - 1) 0)).getD j' 0 ≤ (X.set j (X.getD (cnt - 1) 0)).getD i 0) → (X.set j (X.getD (cnt - 1) 0)).getD j' 0 = Wf.getD b 0 :=
    fun j hj hmin j' hj' hmin' => minEq (pool2 j hj hmin) g1 g3 hj' hmin' hB hBmin
  refine ⟨first, second, ?_⟩
  intro j hj hmin j' hj' hmin' f
  have hlen : cnt - 2 < ((X.set j (X.getD (cnt - 1) 0)).set j' ((X.set j (X.getD (cnt - 1) 0)).getD (cnt - 1 - 1) 0)).length := by
    rw [List.length_set, List.length_set]; omega
  have e1 : cnt - 1 = cnt - 2 + 1 := by omega
  have h1 := putM (v := Wf.getD a 0 + Wf.getD b 0) hlen f
  rw [← e1] at h1
  rw [h1]
  have h2' := takeM (X := X.set j (X.getD (cnt - 1) 0)) hj' (by rw [List.length_set]; omega) f
  rw [show cnt - 2 = cnt - 1 - 1 by omega, h2', pool2 j hj hmin f, second j hj hmin j' hj' hmin', sumF_succ, hWm]
  have := s2 (fun i => f (Wf.getD i 0))
  omega
end Go.Proofs.Qxb6604297a.Huff
