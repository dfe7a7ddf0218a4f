/-
  The dynamic program over depths, in plain words.
-/
import Derived.Test.Qxb6604297aPMOpt
set_option linter.unusedVariables false
namespace Go.Proofs.Qxb6604297a.DP
open Huff (sumF sumF_succ sumF_congr)

/-- 1<<62 -/
def INF : Int := 4611686018427387904

/-- A way down to depth d: i symbols placed, a slots open, at the cost v. -/
def Good (n : Nat) (C : Nat → Int) (d i a : Nat) (v : Int) : Prop :=
  i ≤ n ∧ a ≤ n - i ∧ ∃ r : Nat → Nat, (∀ e, e < d → n - i ≤ r e ∧ r e ≤ n) ∧ (∀ e f, e ≤ f → f < d → r f ≤ r e) ∧ v = wcost C r d ∧ (n - 1) * 2 ^ d ≤ wsum r d + (n - i - a)

theorem good_start {n : Nat} (C : Nat → Int) (hn : 1 ≤ n) : Good n C 0 0 1 0 :=
  ⟨by omega, by omega, fun _ => 0, fun e he => by omega, fun e f _ hf => by omega, rfl, by simp [wsum]⟩
theorem good_down {n : Nat} {C : Nat → Int} {d i a : Nat} {v : Int} (h : Good n C d i a v) : Good n C (d + 1) i (min (2 * a) (n - i)) (v + sumF C (n - i)) := by
  obtain ⟨h1, h2, r, h3, h4, h5, h6⟩ := h
  obtain ⟨s, hs⟩ : ∃ s : Nat → Nat, s = fun e => if e < d then r e else n - i := ⟨_, rfl⟩
  have s1 : ∀ e, e < d → s e = r e := fun e he => by rw [hs]; simp [he]
  have s2 : s d = n - i := by rw [hs]; simp
  refine ⟨h1, by omega, s, ?_, ?_, ?_, ?_⟩
  · intro e he
    by_cases c : e < d
    · rw [s1 e c]; exact h3 e c
    · have : e = d := by omega
      rw [this, s2]; omega
  · intro e f hef hf
    by_cases c : f < d
    · rw [s1 f c, s1 e (by omega)]; exact h4 e f hef c
    · have f0 : f = d := by omega
      rw [f0, s2]
      by_cases c2 : e < d
      · rw [s1 e c2]; exact (h3 e c2).1
      · have e0 : e = d := by omega
        rw [e0, s2]; exact Nat.le_refl _
  · unfold wcost
    have e1 : sumF (fun e => sumF C (s e)) d = sumF (fun e => sumF C (r e)) d := sumF_congr d (fun e he => by rw [s1 e he])
    rw [sumF_succ, s2, h5, e1]
    rfl
  · have e1 : wsum s (d + 1) = 2 * wsum r d + (n - i) := by
      simp only [wsum]
      rw [PM.wsum_congr d s1, s2]
    rw [e1, Nat.pow_succ, ← Nat.mul_assoc]
    omega
theorem good_place {n : Nat} {C : Nat → Int} {d i a : Nat} {v : Int} (h : Good n C d i a v) (ha : 1 ≤ a) : Good n C d (i + 1) (a - 1) v := by
  obtain ⟨h1, h2, r, h3, h4, h5, h6⟩ := h
  refine ⟨by omega, by omega, r, fun e he => by have := h3 e he; omega, h4, h5, by omega⟩
theorem good_val {n : Nat} {C : Nat → Int} (hC : ∀ i, i < n → 1 ≤ C i) {d i a : Nat} {v : Int} (h : Good n C d i a v) : 0 ≤ v ∧ v ≤ (d : Int) * sumF C n := by
  obtain ⟨h1, h2, r, h3, h4, h5, h6⟩ := h
  rw [h5]
  clear h4 h5 h6
  have hpre : ∀ q, q ≤ n → 0 ≤ sumF C q := fun q hq => PM.pre_mono hC (Nat.zero_le q) hq
  induction d with
  | zero => unfold wcost; simp [sumF]
  | succ d ih =>
    have h := ih (fun e he => h3 e (by omega))
    unfold wcost at h ⊢
    rw [sumF_succ]
    have h7 := hpre (r d) (h3 d (by omega)).2
    have h8 := PM.pre_mono hC (h3 d (by omega)).2 (Nat.le_refl _)
    rw [show ((d + 1 : Nat) : Int) = (d : Int) + 1 by omega, Int.add_mul]
    omega
theorem good_end {n L : Nat} {C : Nat → Int} {d : Nat} {v c : Int} (h : Good n C d n 0 v) (hd : d ≤ L) (hL : Least n L C c) : c ≤ v := by
  obtain ⟨h1, h2, r, h3, h4, h5, h6⟩ := h
  rw [h5]
  refine hL d r hd (fun e he => (h3 e he).2) h4 ?_
  omega

/-! ### the table -/
def ix (n i a : Nat) : Nat := i * (n + 1) + a
theorem ix_inj {n i a j b : Nat} (ha : a ≤ n) (hb : b ≤ n) (h : ix n i a = ix n j b) : i = j ∧ a = b := by
  unfold ix at h
  have e : i = j := by
    rcases Nat.lt_trichotomy i j with c | c | c
    · have : (i + 1) * (n + 1) ≤ j * (n + 1) := Nat.mul_le_mul_right _ c
      rw [Nat.add_mul] at this
      omega
    · exact c
    · have : (j + 1) * (n + 1) ≤ i * (n + 1) := Nat.mul_le_mul_right _ c
      rw [Nat.add_mul] at this
      omega
  subst e
  exact ⟨rfl, by omega⟩
theorem ix_lt {n i a : Nat} (hi : i ≤ n) (ha : a ≤ n) : ix n i a < (n + 1) * (n + 1) := by
  unfold ix
  have : i * (n + 1) ≤ n * (n + 1) := Nat.mul_le_mul_right _ hi
  rw [Nat.add_mul]
  omega
def at_ (n : Nat) (X : List Int) (i a : Nat) : Int := X.getD (ix n i a) 0
theorem at_set {n : Nat} {X : List Int} (hl : X.length = (n + 1) * (n + 1)) {i a : Nat} (hi : i ≤ n) (ha : a ≤ n) (v : Int) {j b : Nat} (hb : b ≤ n) : at_ n (X.set (ix n i a) v) j b = if j = i ∧ b = a then v else at_ n X j b := by
  unfold at_
  rw [Huff.getD_set _ _ _ _ (by rw [hl]; exact ix_lt hi ha)]
  by_cases c : j = i ∧ b = a
  · rw [if_pos c, if_pos (by rw [c.1, c.2])]
  · rw [if_neg c, if_neg]
    intro e
    exact c (ix_inj hb ha e)

/-- All entries are ways down (or none). -/
structure Tab (n : Nat) (C : Nat → Int) (d : Nat) (X : List Int) : Prop where
  len : X.length = (n + 1) * (n + 1)
  ok : ∀ i a, i ≤ n → a ≤ n → at_ n X i a = INF ∨ Good n C d i a (at_ n X i a)

theorem Tab.set {n : Nat} {C : Nat → Int} {d : Nat} {X : List Int} (h : Tab n C d X) {i a : Nat} {v : Int} (hg : Good n C d i a v) : Tab n C d (X.set (ix n i a) v) := by
  have hi := hg.1
  have ha := hg.2.1
  refine ⟨by rw [List.length_set]; exact h.len, ?_⟩
  intro j b hj hb
  rw [at_set h.len hi (by omega) v hb]
  by_cases c : j = i ∧ b = a
  · rw [if_pos c, c.1, c.2]; exact .inr hg
  · rw [if_neg c]; exact h.ok j b hj hb
/-- Each entry is at most 1<<62. -/
theorem Tab.le {n : Nat} {C : Nat → Int} {d : Nat} {X : List Int} (h : Tab n C d X) (hC : ∀ i, i < n → 1 ≤ C i) (hd : (d : Int) * sumF C n ≤ INF) {i a : Nat} (hi : i ≤ n) (ha : a ≤ n) : at_ n X i a ≤ INF := by
  rcases h.ok i a hi ha with e | g
  · rw [e]; exact Int.le_refl _
  · have := (good_val hC g).2
    omega

/-- Going down: what lies before (i, a) has been taken down. -/
structure Down (n : Nat) (C : Nat → Int) (d : Nat) (X N : List Int) (i a : Nat) : Prop where
  tab : Tab n C (d + 1) N
  done : ∀ j b, j < n → 1 ≤ b → b ≤ n - j → (j < i ∨ (j = i ∧ b < a)) → at_ n X j b ≠ INF → at_ n N j (min (2 * b) (n - j)) ≤ at_ n X j b + sumF C (n - j)

theorem Down.start {n : Nat} {C : Nat → Int} {d : Nat} (X : List Int) {N : List Int} (hl : N.length = (n + 1) * (n + 1)) (h : ∀ k, k < (n + 1) * (n + 1) → N.getD k 0 = INF) : Down n C d X N 0 1 :=
  ⟨⟨hl, fun i a hi ha => .inl (h _ (ix_lt hi ha))⟩, fun j b _ h1 _ h2 => by omega⟩
theorem Down.row {n : Nat} {C : Nat → Int} {d : Nat} {X N : List Int} {i a : Nat} (h : Down n C d X N i a) (ha : n - i < a) : Down n C d X N (i + 1) 1 :=
  ⟨h.tab, fun j b h1 h2 h3 h4 => h.done j b h1 h2 h3 (by
    rcases h4 with h4 | h4
    · by_cases e : j = i
      · exact .inr ⟨e, by omega⟩
      · exact .inl (by omega)
    · omega)⟩
theorem Down.skip {n : Nat} {C : Nat → Int} {d : Nat} {X N : List Int} {i a : Nat} (h : Down n C d X N i a) (hx : at_ n X i a = INF) : Down n C d X N i (a + 1) :=
  ⟨h.tab, fun j b h1 h2 h3 h4 h5 => by
    by_cases e : j = i ∧ b = a
    · rw [e.1, e.2] at h5
      exact absurd hx h5
    · exact h.done j b h1 h2 h3 (by omega) h5⟩
theorem Down.keep {n : Nat} {C : Nat → Int} {d : Nat} {X N : List Int} {i a : Nat} (h : Down n C d X N i a) (hx : at_ n N i (min (2 * a) (n - i)) ≤ at_ n X i a + sumF C (n - i)) : Down n C d X N i (a + 1) :=
  ⟨h.tab, fun j b h1 h2 h3 h4 h5 => by
    by_cases e : j = i ∧ b = a
    · rw [e.1, e.2]
      exact hx
    · exact h.done j b h1 h2 h3 (by omega) h5⟩
theorem Down.put {n : Nat} {C : Nat → Int} {d : Nat} {X N : List Int} {i a : Nat} (h : Down n C d X N i a) (hX : Tab n C d X) (hi : i < n) (ha : a ≤ n - i) (hx : at_ n X i a ≠ INF) (hlt : at_ n X i a + sumF C (n - i) < at_ n N i (min (2 * a) (n - i))) :
    Down n C d X (N.set (ix n i (min (2 * a) (n - i))) (at_ n X i a + sumF C (n - i))) i (a + 1) := by
  have hg : Good n C d i a (at_ n X i a) := by
    rcases hX.ok i a (by omega) (by omega) with e | g
    · exact absurd e hx
    · exact g
  refine ⟨h.tab.set (good_down hg), ?_⟩
  intro j b h1 h2 h3 h4 h5
  rw [at_set h.tab.len (by omega) (by omega) _ (by omega)]
  by_cases e : j = i ∧ b = a
  · rw [e.1, e.2, if_pos ⟨rfl, rfl⟩]
    exact Int.le_refl _
  · have h6 := h.done j b h1 h2 h3 (by omega) h5
    by_cases c : j = i ∧ min (2 * b) (n - j) = min (2 * a) (n - i)
    · rw [if_pos c]
      rw [c.2, c.1] at h6
      rw [c.1]
      omega
    · rw [if_neg c]
      exact h6

/-- Placing: what lies before (i, a) has been placed on. -/
structure Place (n : Nat) (C : Nat → Int) (d : Nat) (X N : List Int) (i a : Nat) : Prop where
  tab : Tab n C (d + 1) N
  low : ∀ j b, j < n → 1 ≤ b → b ≤ n - j → at_ n X j b ≠ INF → at_ n N j (min (2 * b) (n - j)) ≤ at_ n X j b + sumF C (n - j)
  done : ∀ j b, j < n → 1 ≤ b → b ≤ n - j → (j < i ∨ (j = i ∧ b < a)) → at_ n N (j + 1) (b - 1) ≤ at_ n N j b

theorem Place.start {n : Nat} {C : Nat → Int} {d : Nat} {X N : List Int} {i a : Nat} (h : Down n C d X N i a) (hi : n ≤ i) : Place n C d X N 0 1 :=
  ⟨h.tab, fun j b h1 h2 h3 h5 => h.done j b h1 h2 h3 (.inl (by omega)) h5, fun j b _ h1 _ h2 => by omega⟩
theorem Place.row {n : Nat} {C : Nat → Int} {d : Nat} {X N : List Int} {i a : Nat} (h : Place n C d X N i a) (ha : n - i < a) : Place n C d X N (i + 1) 1 :=
  ⟨h.tab, h.low, fun j b h1 h2 h3 h4 => h.done j b h1 h2 h3 (by
    rcases h4 with h4 | h4
    · by_cases e : j = i
      · exact .inr ⟨e, by omega⟩
      · exact .inl (by omega)
    · omega)⟩
theorem Place.keep {n : Nat} {C : Nat → Int} {d : Nat} {X N : List Int} {i a : Nat} (h : Place n C d X N i a) (hx : at_ n N (i + 1) (a - 1) ≤ at_ n N i a) : Place n C d X N i (a + 1) :=
  ⟨h.tab, h.low, fun j b h1 h2 h3 h4 => by
    by_cases e : j = i ∧ b = a
    · rw [e.1, e.2]
      exact hx
    · exact h.done j b h1 h2 h3 (by omega)⟩
theorem Place.put {n : Nat} {C : Nat → Int} {d : Nat} {X N : List Int} {i a : Nat} (h : Place n C d X N i a) (hi : i < n) (h1a : 1 ≤ a) (ha : a ≤ n - i) (hx : at_ n N i a ≠ INF) (hlt : at_ n N i a < at_ n N (i + 1) (a - 1)) :
    Place n C d X (N.set (ix n (i + 1) (a - 1)) (at_ n N i a)) i (a + 1) := by
  have hg : Good n C (d + 1) i a (at_ n N i a) := by
    rcases h.tab.ok i a (by omega) (by omega) with e | g
    · exact absurd e hx
    · exact g
  refine ⟨h.tab.set (good_place hg h1a), ?_, ?_⟩
  · intro j b h1 h2 h3 h5
    have h6 := h.low j b h1 h2 h3 h5
    rw [at_set h.tab.len (by omega) (by omega) _ (by omega)]
    by_cases c : j = i + 1 ∧ min (2 * b) (n - j) = a - 1
    · rw [if_pos c]
      rw [c.2, c.1] at h6
      rw [c.1]
      omega
    · rw [if_neg c]
      exact h6
  · intro j b h1 h2 h3 h4
    rw [at_set h.tab.len (by omega) (by omega) _ (by omega), at_set h.tab.len (by omega) (by omega) _ (by omega)]
    rw [if_neg (show ¬ (j = i + 1 ∧ b = a - 1) by omega)]
    by_cases e : j = i ∧ b = a
    · rw [e.1, e.2, if_pos ⟨rfl, rfl⟩]
      exact Int.le_refl _
    · rw [if_neg (by omega)]
      exact h.done j b h1 h2 h3 (by omega)

/-! ### one way down, followed -/
/-- A way down that ends at depth m with all placed. -/
structure Path (n m : Nat) (R A : Nat → Nat) : Prop where
  r0 : R 0 = n
  a0 : A 0 = 1
  fit : ∀ e, e < m → 2 * A e ≤ R e
  one : ∀ e, e < m → 1 ≤ A e
  dec : ∀ e, e < m → R (e + 1) ≤ R e
  next : ∀ e, e < m → A (e + 1) + (R e - R (e + 1)) = 2 * A e
  rm : R m = 0
  am : A m = 0

theorem Path.le {n m : Nat} {R A : Nat → Nat} (h : Path n m R A) : ∀ e, e ≤ m → R e ≤ n := by
  intro e
  induction e with
  | zero => intro _; rw [h.r0]; exact Nat.le_refl _
  | succ e ih => intro he; have := ih (by omega); have := h.dec e (by omega); omega
/-- A complete code of n symbols is at most n - 1 deep. -/
theorem Path.short {n m : Nat} {R A : Nat → Nat} (h : Path n m R A) (hn : 1 ≤ n) : m ≤ n - 1 := by
  have key : ∀ e, e ≤ m → R e + 1 + e ≤ n + A e := by
    intro e
    induction e with
    | zero => intro _; rw [h.r0, h.a0]; omega
    | succ e ih =>
      intro he
      have h1 := ih (by omega)
      have h2 := h.next e (by omega)
      have h3 := h.one e (by omega)
      have h4 := h.dec e (by omega)
      omega
  have := key m (Nat.le_refl _)
  rw [h.rm, h.am] at this
  omega
theorem Path.pos {n m : Nat} {R A : Nat → Nat} (h : Path n m R A) (hn : 1 ≤ n) : 1 ≤ m := by
  apply Classical.byContradiction
  intro hc
  have e : m = 0 := by omega
  have h1 := h.rm
  rw [e, h.r0] at h1
  omega
theorem Path.cost {n m : Nat} {R A : Nat → Nat} (h : Path n m R A) {C : Nat → Int} (hC : ∀ i, i < n → 1 ≤ C i) : ∀ e, e ≤ m → 0 ≤ wcost C R e ∧ wcost C R e ≤ (e : Int) * sumF C n := by
  intro e
  induction e with
  | zero => intro _; unfold wcost; simp [sumF]
  | succ e ih =>
    intro he
    have h1 := ih (by omega)
    unfold wcost at h1 ⊢
    rw [sumF_succ]
    have h2 := PM.pre_mono hC (h.le e (by omega)) (Nat.le_refl _)
    have h3 := PM.pre_mono hC (Nat.zero_le (R e)) (h.le e (by omega))
    have h4 : sumF C 0 = 0 := rfl
    rw [show ((e + 1 : Nat) : Int) = (e : Int) + 1 by omega, Int.add_mul]
    omega

/-- The table at depth d and the best so far. -/
structure Lv (n : Nat) (C : Nat → Int) (m : Nat) (R A : Nat → Nat) (d : Nat) (X : List Int) (best : Int) : Prop where
  tab : Tab n C d X
  reach : d ≤ m → at_ n X (n - R d) (A d) ≤ wcost C R d
  is : best = INF ∨ ∃ d', d' ≤ d ∧ Good n C d' n 0 best
  top : best ≤ INF
  nn : 0 ≤ best
  got : m ≤ d → best ≤ wcost C R m

theorem Lv.start {n m : Nat} {C : Nat → Int} {R A : Nat → Nat} (hn : 1 ≤ n) (hP : Path n m R A) {X : List Int} (hl : X.length = (n + 1) * (n + 1)) (h : ∀ k, k < (n + 1) * (n + 1) → X.getD k 0 = if k = 1 then 0 else INF) : Lv n C m R A 0 X INF := by
  have e1 : ix n 0 1 = 1 := by simp [ix]
  have hat : ∀ i a, i ≤ n → a ≤ n → at_ n X i a = if i = 0 ∧ a = 1 then 0 else INF := by
    intro i a hi ha
    unfold at_
    rw [h _ (ix_lt hi ha)]
    by_cases c : i = 0 ∧ a = 1
    · rw [if_pos c, if_pos (by rw [c.1, c.2]; exact e1)]
    · rw [if_neg c, if_neg]
      intro e
      rw [← e1] at e
      exact c (ix_inj ha (by omega) e)
  refine ⟨⟨hl, ?_⟩, ?_, .inl rfl, Int.le_refl _, by decide, ?_⟩
  · intro i a hi ha
    rw [hat i a hi ha]
    by_cases c : i = 0 ∧ a = 1
    · rw [if_pos c, c.1, c.2]; exact .inr (good_start C hn)
    · rw [if_neg c]; exact .inl rfl
  · intro _
    rw [hP.r0, hP.a0, Nat.sub_self, hat 0 1 (by omega) (by omega), if_pos ⟨rfl, rfl⟩]
    exact Int.le_refl _
  · intro hm
    have := hP.pos hn
    omega

theorem Lv.step {n m : Nat} {C : Nat → Int} {R A : Nat → Nat} (hn : 1 ≤ n) (hC : ∀ i, i < n → 1 ≤ C i) (hP : Path n m R A) {d : Nat} {X N : List Int} {best b' : Int} (h : Lv n C m R A d X best) (hbig : ((d : Int) + 1) * sumF C n < INF) (hpl : Place n C d X N n 1)
    (hb : b' = if at_ n N n 0 < best then at_ n N n 0 else best) : Lv n C m R A (d + 1) N b' := by
  have hreach : d + 1 ≤ m → at_ n N (n - R (d + 1)) (A (d + 1)) ≤ wcost C R (d + 1) := by
    intro hd
    have h1 := h.reach (by omega)
    have hRn := hP.le d (by omega)
    have hfit := hP.fit d (by omega)
    have hone := hP.one d (by omega)
    have hdec := hP.dec d (by omega)
    have hnext := hP.next d (by omega)
    have hc := (hP.cost hC d (by omega)).2
    have hs0 := PM.pre_mono hC (Nat.zero_le n) (Nat.le_refl _)
    have hs00 : sumF C 0 = 0 := rfl
    have hne : at_ n X (n - R d) (A d) ≠ INF := by
      rw [Int.add_mul] at hbig
      omega
    have h2 := hpl.low (n - R d) (A d) (by omega) hone (by omega) hne
    rw [show n - (n - R d) = R d by omega, show min (2 * A d) (R d) = 2 * A d by omega] at h2
    have hw : wcost C R (d + 1) = wcost C R d + sumF C (R d) := rfl
    have chain : ∀ q, q ≤ R d - R (d + 1) → at_ n N (n - R d + q) (2 * A d - q) ≤ wcost C R (d + 1) := by
      intro q
      induction q with
      | zero => intro _; rw [Nat.add_zero, Nat.sub_zero]; omega
      | succ q ih =>
        intro hq
        have h3 := ih (by omega)
        have h4 := hpl.done (n - R d + q) (2 * A d - q) (by omega) (by omega) (by omega) (.inl (by omega))
        rw [show n - R d + (q + 1) = n - R d + q + 1 by omega, show 2 * A d - (q + 1) = 2 * A d - q - 1 by omega]
        omega
    have h5 := chain (R d - R (d + 1)) (Nat.le_refl _)
    rw [show n - R d + (R d - R (d + 1)) = n - R (d + 1) by omega, show 2 * A d - (R d - R (d + 1)) = A (d + 1) by omega] at h5
    exact h5
  have hend := hpl.tab.ok n 0 (Nat.le_refl _) (Nat.zero_le _)
  have hle := hpl.tab.le hC (d := d + 1) (by rw [show ((d + 1 : Nat) : Int) = (d : Int) + 1 by omega]; omega) (Nat.le_refl n) (Nat.zero_le n)
  refine ⟨hpl.tab, hreach, ?_, ?_, ?_, ?_⟩
  · rw [hb]
    split
    · rcases hend with e | g
      · exact .inl e
      · exact .inr ⟨d + 1, Nat.le_refl _, g⟩
    · rcases h.is with e | ⟨d', h1, h2⟩
      · exact .inl e
      · exact .inr ⟨d', by omega, h2⟩
  · rw [hb]
    have := h.top
    split <;> omega
  · rw [hb]
    split
    · rcases hend with e | g
      · rw [e]; decide
      · exact (good_val hC g).1
    · exact h.nn
  · intro hm
    rw [hb]
    by_cases c : m ≤ d
    · have := h.got c
      split <;> omega
    · have e : m = d + 1 := by omega
      have h1 := hreach (by omega)
      rw [← e, hP.rm, hP.am, Nat.sub_zero] at h1
      split <;> omega

/-- THE BEST IS THE COST. -/
theorem Lv.best {n m L : Nat} {C : Nat → Int} {R A : Nat → Nat} (hC : ∀ i, i < n → 1 ≤ C i) (hP : Path n m R A) {d : Nat} {X : List Int} {best : Int} (h : Lv n C m R A d X best) (hm : m ≤ d) (hd : d ≤ L) (hbig : (m : Int) * sumF C n < INF) (hL : Least n L C (wcost C R m)) : best = wcost C R m := by
  have h1 := h.got hm
  have h2 := (hP.cost hC m (Nat.le_refl _)).2
  rcases h.is with e | ⟨d', h3, g⟩
  · omega
  · have := good_end g (by omega) hL
    omega
end Go.Proofs.Qxb6604297a.DP
