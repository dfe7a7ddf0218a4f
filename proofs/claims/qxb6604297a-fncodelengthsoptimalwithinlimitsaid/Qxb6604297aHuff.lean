/-
  Huffman's two queues, in plain words: no Go in sight.
-/
namespace Go.Proofs.Qxb6604297a.Huff

def sumF (f : Nat → Int) : Nat → Int
  | 0 => 0
  | k + 1 => sumF f k + f k
theorem sumF_succ (f : Nat → Int) (k : Nat) : sumF f (k + 1) = sumF f k + f k := rfl
theorem sumF_congr {f h : Nat → Int} (n : Nat) (hf : ∀ i, i < n → f i = h i) : sumF f n = sumF h n := by
  induction n with
  | zero => rfl
  | succ n ih => rw [sumF_succ, sumF_succ, ih (fun i hi => hf i (by omega)), hf n (by omega)]

/-- The lightest of the leaves and trees that are left: its number, and the two heads behind it. -/
def pick (n made : Nat) (W : List Int) (leaf tree : Nat) : Nat × Nat × Nat :=
  if leaf < n ∧ (tree = made ∨ W.getD leaf 0 ≤ W.getD tree 0) then (leaf, leaf + 1, tree) else (tree, leaf, tree + 1)

structure HS where
  leaf : Nat
  tree : Nat
  W : List Int
  P : List Int

def pickA (n made : Nat) (s : HS) : Nat × Nat × Nat := pick n made s.W s.leaf s.tree
def pickB (n made : Nat) (s : HS) : Nat × Nat × Nat := pick n made s.W (pickA n made s).2.1 (pickA n made s).2.2

/-- One merge. -/
def hstep (n made : Nat) (s : HS) : HS :=
  { leaf := (pickB n made s).2.1, tree := (pickB n made s).2.2,
    W := s.W.set made (s.W.getD (pickA n made s).1 0 + s.W.getD (pickB n made s).1 0),
    P := (s.P.set (pickA n made s).1 (made : Int)).set (pickB n made s).1 (made : Int) }

def hrun (n : Nat) (s : HS) : Nat → HS
  | 0 => s
  | k + 1 => hstep n (n + k) (hrun n s k)

/-- Which nodes have been merged already. -/
def Con (n leaf tree i : Nat) : Prop := i < leaf ∨ (n ≤ i ∧ i < tree)

structure HI (n m pm : Nat) (C : Nat → Int) (leaf tree : Nat) (W P : List Int) : Prop where
  lenW : W.length = 2 * n - 1
  lenP : P.length = 2 * n - 1
  hl : leaf ≤ n
  ht0 : n ≤ tree
  ht : tree ≤ m
  lw : ∀ i, i < n → W.getD i 0 = C i
  pos : ∀ i, i < m → 1 ≤ W.getD i 0
  mono : ∀ i j, n ≤ i → i ≤ j → j < m → W.getD i 0 ≤ W.getD j 0
  ord : ∀ x y, Con n leaf tree x → ¬ Con n leaf tree y → y < m → W.getD x 0 ≤ W.getD y 0
  par : ∀ x, Con n leaf tree x → (n : Int) ≤ P.getD x 0 ∧ P.getD x 0 < pm ∧ (x : Int) < P.getD x 0
  mon : ∀ x y, Con n leaf tree x → Con n leaf tree y → P.getD x 0 < P.getD y 0 → W.getD x 0 ≤ W.getD y 0
  monP : ∀ i j, i ≤ j → Con n leaf tree i → Con n leaf tree j → (j < n ∨ n ≤ i) → P.getD i 0 ≤ P.getD j 0
  kids : ∀ t, n ≤ t → t < m → ∃ a b, a ≠ b ∧ Con n leaf tree a ∧ Con n leaf tree b ∧ P.getD a 0 = t ∧ P.getD b 0 = t ∧ W.getD t 0 = W.getD a 0 + W.getD b 0

theorem getD_set (xs : List Int) (i j : Nat) (v : Int) (h : i < xs.length) : (xs.set i v).getD j 0 = if j = i then v else xs.getD j 0 := by
  simp only [List.getD_eq_getElem?_getD, List.getElem?_set]
  by_cases e : i = j
  · subst e; simp [h]
  · have e' : ¬ j = i := fun h => e h.symm
    simp [e, e']

theorem half {n m pm : Nat} {C : Nat → Int} {leaf tree : Nat} {W P : List Int} (h : HI n m pm C leaf tree W P) (hC : ∀ i j, i ≤ j → j < n → C i ≤ C j) (hnm : n ≤ m) (hm : m < 2 * n - 1) (hpm : pm ≤ m + 1) (hleft : leaf < n ∨ tree < m)
    {x l t : Nat} (hp : pick n m W leaf tree = (x, l, t)) :
    ¬ Con n leaf tree x ∧ x < m ∧ HI n m (m + 1) C l t W (P.set x (m : Int)) ∧ l + t = leaf + tree + 1 ∧ (∀ f, sumF f l + sumF f t = sumF f leaf + sumF f tree + f x) ∧ (∀ y, Con n l t y ↔ Con n leaf tree y ∨ y = x) ∧ leaf ≤ l ∧ tree ≤ t ∧ ((x = leaf ∧ l = leaf + 1 ∧ t = tree) ∨ (x = tree ∧ l = leaf ∧ t = tree + 1)) ∧ (∀ y, ¬ Con n leaf tree y → y < m → W.getD x 0 ≤ W.getD y 0) := by
  have hl := h.hl
  have ht0 := h.ht0
  have ht := h.ht
  -- which head it is, and that it is the least
  have key : ((x = leaf ∧ l = leaf + 1 ∧ t = tree ∧ leaf < n) ∨ (x = tree ∧ l = leaf ∧ t = tree + 1 ∧ tree < m)) ∧ (∀ y, ¬ Con n leaf tree y → y < m → W.getD x 0 ≤ W.getD y 0) := by
    unfold pick at hp
    by_cases hc : leaf < n ∧ (tree = m ∨ W.getD leaf 0 ≤ W.getD tree 0)
    · rw [if_pos hc] at hp
      simp only [Prod.mk.injEq] at hp
      obtain ⟨rfl, rfl, rfl⟩ := hp
      refine ⟨.inl ⟨rfl, rfl, rfl, hc.1⟩, ?_⟩
      intro y hy hym
      unfold Con at hy
      by_cases hyn : y < n
      · rw [h.lw _ hc.1, h.lw _ hyn]
        exact hC _ _ (by omega) hyn
      · have h1 : tree ≤ y := by omega
        rcases hc.2 with e | e
        · omega
        · exact Int.le_trans e (h.mono _ _ ht0 h1 hym)
    · rw [if_neg hc] at hp
      simp only [Prod.mk.injEq] at hp
      obtain ⟨rfl, rfl, rfl⟩ := hp
      have htm : tree < m := by
        rcases hleft with h1 | h1
        · have : ¬ tree = m := fun e => hc ⟨h1, .inl e⟩
          omega
        · exact h1
      refine ⟨.inr ⟨rfl, rfl, rfl, htm⟩, ?_⟩
      intro y hy hym
      unfold Con at hy
      by_cases hyn : y < n
      · have hlt : leaf < n := by omega
        have h1 : ¬ W.getD leaf 0 ≤ W.getD tree 0 := fun e => hc ⟨hlt, .inr e⟩
        have h2 : W.getD leaf 0 ≤ W.getD y 0 := by rw [h.lw _ hlt, h.lw _ hyn]; exact hC _ _ (by omega) hyn
        omega
      · exact h.mono _ _ ht0 (by omega) hym
  obtain ⟨hcase, hmin⟩ := key
  have hxm : x < m := by rcases hcase with ⟨rfl, _, _, h1⟩ | ⟨rfl, _, _, h1⟩ <;> omega
  have hxc : ¬ Con n leaf tree x := by unfold Con; rcases hcase with ⟨rfl, _, _, h1⟩ | ⟨rfl, _, _, h1⟩ <;> omega
  have hiff : ∀ y, Con n l t y ↔ Con n leaf tree y ∨ y = x := by
    intro y; unfold Con; rcases hcase with ⟨rfl, rfl, rfl, h1⟩ | ⟨rfl, rfl, rfl, h1⟩ <;> omega
  have hxP : x < P.length := by rw [h.lenP]; omega
  have hset : ∀ j, (P.set x (m : Int)).getD j 0 = if j = x then (m : Int) else P.getD j 0 := fun j => getD_set P x j _ hxP
  refine ⟨hxc, hxm, ?_, by rcases hcase with ⟨_, rfl, rfl, _⟩ | ⟨_, rfl, rfl, _⟩ <;> omega, ?_, hiff, by rcases hcase with ⟨_, rfl, rfl, _⟩ | ⟨_, rfl, rfl, _⟩ <;> omega, by rcases hcase with ⟨_, rfl, rfl, _⟩ | ⟨_, rfl, rfl, _⟩ <;> omega,
    by rcases hcase with ⟨a, b, c, _⟩ | ⟨a, b, c, _⟩; exact .inl ⟨a, b, c⟩; exact .inr ⟨a, b, c⟩, hmin⟩
  · refine ⟨h.lenW, by rw [List.length_set]; exact h.lenP, ?_, ?_, ?_, h.lw, h.pos, h.mono, ?_, ?_, ?_, ?_, ?_⟩
    · rcases hcase with ⟨_, rfl, rfl, _⟩ | ⟨_, rfl, rfl, _⟩ <;> omega
    · rcases hcase with ⟨_, rfl, rfl, _⟩ | ⟨_, rfl, rfl, _⟩ <;> omega
    · rcases hcase with ⟨_, rfl, rfl, _⟩ | ⟨_, rfl, rfl, _⟩ <;> omega
    · intro a y ha hy hym
      have hy' : ¬ Con n leaf tree y := fun e => hy ((hiff y).2 (.inl e))
      rcases (hiff a).1 ha with h1 | h1
      · exact h.ord a y h1 hy' hym
      · rw [h1]; exact hmin y hy' hym
    · intro a ha
      rw [hset]
      by_cases e : a = x
      · rw [if_pos e]; omega
      · rw [if_neg e]
        have h1 : Con n leaf tree a := ((hiff a).1 ha).resolve_right e
        have := h.par a h1
        omega
    · intro a b ha hb hlt
      rw [hset, hset] at hlt
      by_cases ea : a = x
      · rw [if_pos ea] at hlt
        by_cases eb : b = x
        · rw [if_pos eb] at hlt; omega
        · rw [if_neg eb] at hlt
          have := h.par b (((hiff b).1 hb).resolve_right eb)
          omega
      · have hca := ((hiff a).1 ha).resolve_right ea
        by_cases eb : b = x
        · rw [eb]; exact h.ord a x hca hxc hxm
        · rw [if_neg ea, if_neg eb] at hlt
          exact h.mon a b hca (((hiff b).1 hb).resolve_right eb) hlt
    · intro i j hij hi hj hq
      rw [hset, hset]
      by_cases ej : j = x
      · rw [if_pos ej]
        by_cases ei : i = x
        · rw [if_pos ei]; omega
        · rw [if_neg ei]
          have := h.par i (((hiff i).1 hi).resolve_right ei)
          omega
      · rw [if_neg ej]
        have hcj := ((hiff j).1 hj).resolve_right ej
        by_cases ei : i = x
        · exfalso
          unfold Con at hcj
          rcases hcase with ⟨rfl, _, _, h1⟩ | ⟨rfl, _, _, h1⟩ <;> omega
        · rw [if_neg ei]
          exact h.monP i j hij (((hiff i).1 hi).resolve_right ei) hcj hq
    · intro u hu1 hu2
      obtain ⟨a, b, hne, ha, hb, h1, h2, h3⟩ := h.kids u hu1 hu2
      have ea : a ≠ x := fun e => hxc (e ▸ ha)
      have eb : b ≠ x := fun e => hxc (e ▸ hb)
      exact ⟨a, b, hne, (hiff a).2 (.inl ha), (hiff b).2 (.inl hb), by rw [hset, if_neg ea]; exact h1, by rw [hset, if_neg eb]; exact h2, h3⟩
  · intro f
    rcases hcase with ⟨rfl, rfl, rfl, _⟩ | ⟨rfl, rfl, rfl, _⟩ <;> rw [sumF_succ] <;> omega

theorem con_lt {n m pm : Nat} {C : Nat → Int} {leaf tree : Nat} {W P : List Int} (h : HI n m pm C leaf tree W P) (hnm : n ≤ m) {x : Nat} (hx : Con n leaf tree x) : x < m := by
  unfold Con at hx; have := h.hl; have := h.ht; omega

theorem addNode {n m : Nat} {C : Nat → Int} {leaf tree : Nat} {W P : List Int} (h : HI n m (m + 1) C leaf tree W P) (hnm : n ≤ m) (hm : m < 2 * n - 1) {a b : Nat} {v : Int} (hab : a ≠ b) (ha : Con n leaf tree a) (hb : Con n leaf tree b)
    (hPa : P.getD a 0 = m) (hPb : P.getD b 0 = m) (hv : v = W.getD a 0 + W.getD b 0) (hmono : ∀ i, n ≤ i → i < m → W.getD i 0 ≤ v) (hord : ∀ x, Con n leaf tree x → W.getD x 0 ≤ v) :
    HI n (m + 1) (m + 1) C leaf tree (W.set m v) P := by
  have hlt := fun {x : Nat} (hx : Con n leaf tree x) => con_lt h hnm hx
  have hmW : m < W.length := by rw [h.lenW]; omega
  have hset : ∀ j, (W.set m v).getD j 0 = if j = m then v else W.getD j 0 := fun j => getD_set W m j v hmW
  have hold : ∀ j, j < m → (W.set m v).getD j 0 = W.getD j 0 := fun j hj => by rw [hset, if_neg (by omega)]
  have hnew : (W.set m v).getD m 0 = v := by rw [hset, if_pos rfl]
  have hpa := h.pos a (hlt ha)
  have hpb := h.pos b (hlt hb)
  refine ⟨by rw [List.length_set]; exact h.lenW, h.lenP, h.hl, h.ht0, by have := h.ht; omega, ?_, ?_, ?_, ?_, h.par, ?_, h.monP, ?_⟩
  · intro i hi; rw [hold i (by omega)]; exact h.lw i hi
  · intro i hi
    by_cases e : i = m
    · rw [e, hnew]; omega
    · rw [hold i (by omega)]; exact h.pos i (by omega)
  · intro i j h1 h2 h3
    by_cases ej : j = m
    · rw [ej, hnew]
      by_cases ei : i = m
      · rw [ei, hnew]; exact Int.le_refl _
      · rw [hold i (by omega)]; exact hmono i h1 (by omega)
    · rw [hold i (by omega), hold j (by omega)]; exact h.mono i j h1 h2 (by omega)
  · intro x y hx hy hym
    rw [hold x (hlt hx)]
    by_cases ey : y = m
    · rw [ey, hnew]; exact hord x hx
    · rw [hold y (by omega)]; exact h.ord x y hx hy (by omega)
  · intro x y hx hy hxy
    rw [hold x (hlt hx), hold y (hlt hy)]; exact h.mon x y hx hy hxy
  · intro t h1 h2
    by_cases et : t = m
    · exact ⟨a, b, hab, ha, hb, by rw [et]; exact hPa, by rw [et]; exact hPb, by rw [et, hnew, hold a (hlt ha), hold b (hlt hb)]; exact hv⟩
    · obtain ⟨a', b', hne, ha', hb', g1, g2, g3⟩ := h.kids t h1 (by omega)
      exact ⟨a', b', hne, ha', hb', g1, g2, by rw [hold t (by omega), hold a' (hlt ha'), hold b' (hlt hb')]; exact g3⟩

/-- What one merge does. -/
structure Merge (n m : Nat) (C : Nat → Int) (s s' : HS) (a b : Nat) : Prop where
  inv : HI n (m + 1) (m + 1) C s'.leaf s'.tree s'.W s'.P
  cnt : s'.leaf + s'.tree + n = 2 * (m + 1)
  am : a < m
  bm : b < m
  na : ¬ Con n s.leaf s.tree a
  nb : ¬ Con n s.leaf s.tree b
  ab : a ≠ b
  con : ∀ y, Con n s'.leaf s'.tree y ↔ Con n s.leaf s.tree y ∨ y = a ∨ y = b
  sum : ∀ f, sumF f s'.leaf + sumF f s'.tree = sumF f s.leaf + sumF f s.tree + f a + f b
  pa : s'.P.getD a 0 = m
  pb : s'.P.getD b 0 = m
  po : ∀ y, y ≠ a → y ≠ b → s'.P.getD y 0 = s.P.getD y 0
  wo : ∀ y, y ≠ m → s'.W.getD y 0 = s.W.getD y 0
  wm : s'.W.getD m 0 = s.W.getD a 0 + s.W.getD b 0
  mina : ∀ y, ¬ Con n s.leaf s.tree y → y < m → s.W.getD a 0 ≤ s.W.getD y 0
  minb : ∀ y, ¬ Con n s.leaf s.tree y → y < m → y ≠ a → s.W.getD b 0 ≤ s.W.getD y 0
  eqW : s'.W = s.W.set m (s.W.getD a 0 + s.W.getD b 0)
  eqP : s'.P = (s.P.set a (m : Int)).set b (m : Int)
  mid : ∃ l t, pick n m s.W s.leaf s.tree = (a, l, t) ∧ pick n m s.W l t = (b, s'.leaf, s'.tree) ∧ l ≤ n ∧ n ≤ t ∧ t ≤ m ∧ (l < n ∨ t < m)
  left : s.leaf < n ∨ s.tree < m
  tm : s'.tree ≤ m

theorem merge {n m : Nat} {C : Nat → Int} {s : HS} (h : HI n m m C s.leaf s.tree s.W s.P) (hC : ∀ i j, i ≤ j → j < n → C i ≤ C j) (hnm : n ≤ m) (hm : m < 2 * n - 1) (hlt : s.leaf + s.tree + n = 2 * m) :
    Merge n m C s (hstep n m s) (pickA n m s).1 (pickB n m s).1 := by
  have hl := h.hl
  have ht := h.ht
  obtain ⟨⟨a, l1, t1⟩, hA⟩ : ∃ r, pick n m s.W s.leaf s.tree = r := ⟨_, rfl⟩
  obtain ⟨⟨b, l2, t2⟩, hB⟩ : ∃ r, pick n m s.W l1 t1 = r := ⟨_, rfl⟩
  have left0 : s.leaf < n ∨ s.tree < m := by omega
  obtain ⟨na, am, h1, e1, f1, c1, g1, g2, _, mn1⟩ := half h hC hnm hm (by omega) left0 hA
  have hl1 := h1.hl
  have ht1 := h1.ht
  have left1 : l1 < n ∨ t1 < m := by omega
  obtain ⟨nb, bm, h2, e2, f2, c2, g3, g4, _, mn2⟩ := half h1 hC hnm hm (by omega) left1 hB
  have eA : pickA n m s = (a, l1, t1) := hA
  have eB : pickB n m s = (b, l2, t2) := by unfold pickB; rw [eA]; exact hB
  have hab : a ≠ b := fun e => nb ((c1 b).2 (.inr e.symm))
  have hcon : ∀ y, Con n l2 t2 y ↔ Con n s.leaf s.tree y ∨ y = a ∨ y = b := by
    intro y; rw [c2 y, c1 y]; exact or_assoc
  have hPa : a < s.P.length := by rw [h.lenP]; omega
  have hPb : b < (s.P.set a (m : Int)).length := by rw [List.length_set, h.lenP]; omega
  have hset : ∀ y, ((s.P.set a (m : Int)).set b (m : Int)).getD y 0 = if y = b then (m : Int) else if y = a then (m : Int) else s.P.getD y 0 := by
    intro y; rw [getD_set _ _ _ _ hPb, getD_set _ _ _ _ hPa]
  have pA : ((s.P.set a (m : Int)).set b (m : Int)).getD a 0 = m := by rw [hset, if_neg hab, if_pos rfl]
  have pB : ((s.P.set a (m : Int)).set b (m : Int)).getD b 0 = m := by rw [hset, if_pos rfl]
  have hmW : m < s.W.length := by rw [h.lenW]; omega
  have posa := h.pos a am
  have posb := h.pos b bm
  have nb0 : ¬ Con n s.leaf s.tree b := fun e => nb ((c1 b).2 (.inl e))
  have hmin2 : ∀ y, ¬ Con n s.leaf s.tree y → y < m → y ≠ a → s.W.getD b 0 ≤ s.W.getD y 0 := by
    intro y hy hym hya
    exact mn2 y (fun e => ((c1 y).1 e).elim hy hya) hym
  have hfin := addNode (v := s.W.getD a 0 + s.W.getD b 0) h2 hnm hm hab ((hcon a).2 (.inr (.inl rfl))) ((hcon b).2 (.inr (.inr rfl))) pA pB rfl
    (by
      intro i hi1 hi2
      obtain ⟨a', b', _, ha', hb', _, _, hW⟩ := h.kids i hi1 hi2
      have q1 := h.ord a' a ha' na am
      have q2 := h.ord b' b hb' nb0 bm
      omega)
    (by
      intro x hx
      rcases (hcon x).1 hx with hx | hx | hx
      · have := h.ord x a hx na am; omega
      · rw [hx]; omega
      · rw [hx]; omega)
  have eS : hstep n m s = { leaf := l2, tree := t2, W := s.W.set m (s.W.getD a 0 + s.W.getD b 0), P := (s.P.set a (m : Int)).set b (m : Int) } := by
    unfold hstep; rw [eA, eB]
  rw [eA, eB, eS]
  exact {
    inv := hfin
    cnt := by show l2 + t2 + n = _; omega
    am := am
    bm := bm
    na := na
    nb := nb0
    ab := hab
    con := hcon
    sum := fun f => by have := f1 f; have := f2 f; show sumF f l2 + sumF f t2 = sumF f s.leaf + sumF f s.tree + f a + f b; omega
    pa := pA
    pb := pB
    po := fun y h1 h2 => by show ((s.P.set a (m : Int)).set b (m : Int)).getD y 0 = _; rw [hset, if_neg h2, if_neg h1]
    wo := fun y hy => by show (s.W.set m _).getD y 0 = _; rw [getD_set _ _ _ _ hmW, if_neg hy]
    wm := by show (s.W.set m _).getD m 0 = _; rw [getD_set _ _ _ _ hmW, if_pos rfl]
    mina := mn1
    minb := hmin2
    eqW := rfl
    eqP := rfl
    mid := ⟨l1, t1, hA, hB, hl1, h1.ht0, ht1, left1⟩
    left := left0
    tm := h2.ht }

/-- The start: the leaves' weights, no tree. -/
theorem start {n : Nat} {C : Nat → Int} {W P : List Int} (hW : W.length = 2 * n - 1) (hP : P.length = 2 * n - 1) (hw : ∀ i, i < n → W.getD i 0 = C i) (hc : ∀ i, i < n → 1 ≤ C i) : HI n n n C 0 n W P := by
  refine ⟨hW, hP, Nat.zero_le _, Nat.le_refl _, Nat.le_refl _, hw, fun i hi => by rw [hw i hi]; exact hc i hi, fun i j h1 h2 h3 => by omega, ?_, ?_, ?_, ?_, fun t h1 h2 => by omega⟩ <;> intro x <;> intros <;> rename_i hx <;> unfold Con at * <;> omega

theorem run_inv {n : Nat} {C : Nat → Int} {s : HS} (h : HI n n n C s.leaf s.tree s.W s.P) (hC : ∀ i j, i ≤ j → j < n → C i ≤ C j) (h0 : s.leaf + s.tree = n) (hn : 1 ≤ n) (k : Nat) (hk : k ≤ n - 1) :
    HI n (n + k) (n + k) C (hrun n s k).leaf (hrun n s k).tree (hrun n s k).W (hrun n s k).P ∧ (hrun n s k).leaf + (hrun n s k).tree + n = 2 * (n + k) := by
  induction k with
  | zero => exact ⟨h, by show s.leaf + s.tree + n = _; omega⟩
  | succ k ih =>
    obtain ⟨i1, i2⟩ := ih (by omega)
    have hm := merge i1 hC (by omega) (by omega) i2
    exact ⟨hm.inv, hm.cnt⟩
theorem run_merge {n : Nat} {C : Nat → Int} {s : HS} (h : HI n n n C s.leaf s.tree s.W s.P) (hC : ∀ i j, i ≤ j → j < n → C i ≤ C j) (h0 : s.leaf + s.tree = n) (hn : 1 ≤ n) (k : Nat) (hk : k < n - 1) :
    Merge n (n + k) C (hrun n s k) (hrun n s (k + 1)) (pickA n (n + k) (hrun n s k)).1 (pickB n (n + k) (hrun n s k)).1 := by
  obtain ⟨i1, i2⟩ := run_inv h hC h0 hn k (by omega)
  exact merge i1 hC (by omega) (by omega) i2

/-- The finished tree: 2n-1 nodes, the leaves first; each node but the last has a parent behind it. -/
structure Tree (n : Nat) (C : Nat → Int) (W P : List Int) : Prop where
  lenW : W.length = 2 * n - 1
  lenP : P.length = 2 * n - 1
  lw : ∀ i, i < n → W.getD i 0 = C i
  pos : ∀ i, i < 2 * n - 1 → 1 ≤ W.getD i 0
  par : ∀ x, x < 2 * n - 2 → (n : Int) ≤ P.getD x 0 ∧ P.getD x 0 < (2 * n - 1 : Nat) ∧ (x : Int) < P.getD x 0
  mon : ∀ x y, x < 2 * n - 2 → y < 2 * n - 2 → P.getD x 0 < P.getD y 0 → W.getD x 0 ≤ W.getD y 0
  monP : ∀ i j, i ≤ j → j < 2 * n - 2 → (j < n ∨ n ≤ i) → P.getD i 0 ≤ P.getD j 0
  top : ∀ x, x < 2 * n - 2 → W.getD x 0 ≤ W.getD (2 * n - 2) 0
  kids : ∀ t, n ≤ t → t < 2 * n - 1 → ∃ a b, a ≠ b ∧ a < 2 * n - 2 ∧ b < 2 * n - 2 ∧ P.getD a 0 = t ∧ P.getD b 0 = t ∧ W.getD t 0 = W.getD a 0 + W.getD b 0
  sums : ∀ f h : Nat → Int, (∀ a b m, n ≤ m → m < 2 * n - 1 → a < 2 * n - 2 → b < 2 * n - 2 → P.getD a 0 = m → P.getD b 0 = m → W.getD m 0 = W.getD a 0 + W.getD b 0 → f a + f b = f m + h m) →
    sumF f n = f (2 * n - 2) + sumF (fun k => h (n + k)) (n - 1)

theorem keepP {n : Nat} {C : Nat → Int} {s : HS} (h : HI n n n C s.leaf s.tree s.W s.P) (hC : ∀ i j, i ≤ j → j < n → C i ≤ C j) (h0 : s.leaf + s.tree = n) (hn : 1 ≤ n) (k : Nat) (y : Nat) (hy : Con n (hrun n s k).leaf (hrun n s k).tree y) (j : Nat) (hj : k + j ≤ n - 1) :
    Con n (hrun n s (k + j)).leaf (hrun n s (k + j)).tree y ∧ (hrun n s (k + j)).P.getD y 0 = (hrun n s k).P.getD y 0 := by
  induction j with
  | zero => exact ⟨hy, rfl⟩
  | succ j ih =>
    obtain ⟨i1, i2⟩ := ih (by omega)
    have hm := run_merge h hC h0 hn (k + j) (by omega)
    refine ⟨(hm.con y).2 (.inl i1), ?_⟩
    rw [← i2]
    exact hm.po y (fun e => hm.na (e ▸ i1)) (fun e => hm.nb (e ▸ i1))

theorem keepW {n : Nat} {C : Nat → Int} {s : HS} (h : HI n n n C s.leaf s.tree s.W s.P) (hC : ∀ i j, i ≤ j → j < n → C i ≤ C j) (h0 : s.leaf + s.tree = n) (hn : 1 ≤ n) (k : Nat) (y : Nat) (hy : y < n + k) (j : Nat) (hj : k + j ≤ n - 1) :
    (hrun n s (k + j)).W.getD y 0 = (hrun n s k).W.getD y 0 := by
  induction j with
  | zero => rfl
  | succ j ih =>
    have i2 := ih (by omega)
    have hm := run_merge h hC h0 hn (k + j) (by omega)
    rw [← i2]
    exact hm.wo y (by omega)

theorem tree_of_run {n : Nat} {C : Nat → Int} {s : HS} (h : HI n n n C s.leaf s.tree s.W s.P) (hC : ∀ i j, i ≤ j → j < n → C i ≤ C j) (h0 : s.leaf = 0) (h1 : s.tree = n) (hn : 2 ≤ n) : Tree n C (hrun n s (n - 1)).W (hrun n s (n - 1)).P := by
  have hs0 : s.leaf + s.tree = n := by omega
  obtain ⟨i1, i2⟩ := run_inv h hC hs0 (by omega) (n - 1) (Nat.le_refl _)
  have e1 : n + (n - 1) = 2 * n - 1 := by omega
  rw [e1] at i1 i2
  have hlast := run_merge h hC hs0 (by omega) (n - 2) (by omega)
  have e2 : n - 2 + 1 = n - 1 := by omega
  rw [e2] at hlast
  have htm := hlast.tm
  have hl := i1.hl
  have el : (hrun n s (n - 1)).leaf = n := by omega
  have et : (hrun n s (n - 1)).tree = 2 * n - 2 := by omega
  rw [el, et] at i1
  have hcon : ∀ x, x < 2 * n - 2 → Con n n (2 * n - 2) x := fun x hx => by unfold Con; omega
  have hcon' : ∀ x, Con n n (2 * n - 2) x → x < 2 * n - 2 := fun x hx => by unfold Con at hx; omega
  refine ⟨i1.lenW, i1.lenP, i1.lw, i1.pos, fun x hx => ?_, fun x y hx hy => i1.mon x y (hcon x hx) (hcon y hy), fun i j hij hj => i1.monP i j hij (hcon i (by omega)) (hcon j hj), fun x hx => i1.ord x (2 * n - 2) (hcon x hx) (fun e => by have := hcon' _ e; omega) (by omega), ?_, ?_⟩
  · have := i1.par x (hcon x hx)
    omega
  · intro t ht1 ht2
    obtain ⟨a, b, hne, ha, hb, g1, g2, g3⟩ := i1.kids t ht1 ht2
    exact ⟨a, b, hne, hcon' a ha, hcon' b hb, g1, g2, g3⟩
  · intro f hh hf
    have key : ∀ k, k ≤ n - 1 → sumF f n = (sumF f n - sumF f (hrun n s k).leaf + (sumF f (n + k) - sumF f (hrun n s k).tree)) + sumF (fun k => hh (n + k)) k := by
      intro k
      induction k with
      | zero => intro _; show sumF f n = sumF f n - sumF f s.leaf + (sumF f n - sumF f s.tree) + 0; rw [h0, h1]; simp [sumF]
      | succ k ih =>
        intro hk
        have ih := ih (by omega)
        have hm := run_merge h hC hs0 (by omega) k (by omega)
        have hsum := hm.sum f
        obtain ⟨a, ea⟩ : ∃ a, (pickA n (n + k) (hrun n s k)).1 = a := ⟨_, rfl⟩
        obtain ⟨b, eb⟩ : ∃ b, (pickB n (n + k) (hrun n s k)).1 = b := ⟨_, rfl⟩
        rw [ea, eb] at hm hsum
        have kp := keepP h hC hs0 (by omega) (k + 1) a ((hm.con a).2 (.inr (.inl rfl))) (n - 1 - (k + 1)) (by omega)
        have kq := keepP h hC hs0 (by omega) (k + 1) b ((hm.con b).2 (.inr (.inr rfl))) (n - 1 - (k + 1)) (by omega)
        have ek : k + 1 + (n - 1 - (k + 1)) = n - 1 := by omega
        rw [ek] at kp kq
        have wa := keepW h hC hs0 (by omega) (k + 1) a (by have := hm.am; omega) (n - 1 - (k + 1)) (by omega)
        have wb := keepW h hC hs0 (by omega) (k + 1) b (by have := hm.bm; omega) (n - 1 - (k + 1)) (by omega)
        have wm := keepW h hC hs0 (by omega) (k + 1) (n + k) (by omega) (n - 1 - (k + 1)) (by omega)
        rw [ek] at wa wb wm
        have wa' := hm.wo a (by have := hm.am; omega)
        have wb' := hm.wo b (by have := hm.bm; omega)
        have ha2 : a < 2 * n - 2 := by have := kp.1; rw [el, et] at this; exact hcon' a this
        have hb2 : b < 2 * n - 2 := by have := kq.1; rw [el, et] at this; exact hcon' b this
        have hfab := hf a b (n + k) (by omega) (by omega) ha2 hb2 (by rw [kp.2, hm.pa]) (by rw [kq.2, hm.pb]) (by rw [wm, wa, wb, wa', wb', hm.wm])
        have e3 : sumF f (n + (k + 1)) = sumF f (n + k) + f (n + k) := sumF_succ f (n + k)
        have e4 : sumF (fun k => hh (n + k)) (k + 1) = sumF (fun k => hh (n + k)) k + hh (n + k) := rfl
        rw [e3, e4]
        omega
    have hk := key (n - 1) (Nat.le_refl _)
    rw [el, et, e1] at hk
    have e5 : sumF f (2 * n - 1) = sumF f (2 * n - 2) + f (2 * n - 2) := by
      have : 2 * n - 1 = (2 * n - 2) + 1 := by omega
      rw [this, sumF_succ]
    rw [e5] at hk
    omega
end Go.Proofs.Qxb6604297a.Huff
