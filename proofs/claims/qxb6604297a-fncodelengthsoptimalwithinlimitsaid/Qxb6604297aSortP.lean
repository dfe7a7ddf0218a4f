/-
  A stable sort by runs that are merged in place, in plain words.
-/
import Derived.Test.Qxb6604297aPool
set_option linter.unusedVariables false
namespace Go.Proofs.Qxb6604297a.Srt
open Huff (sumF sumF_succ sumF_one sumF_congr getD_set)

/-- X' is X with its places a .. b-1 dealt anew. -/
structure Dealt (a b : Nat) (X X' : List Int) : Prop where
  len : X'.length = X.length
  src : ∀ i, a ≤ i → i < b → ∃ j, a ≤ j ∧ j < b ∧ X'.getD i 0 = X.getD j 0
  out : ∀ i, i < a ∨ b ≤ i → X'.getD i 0 = X.getD i 0
  bag : ∀ f : Int → Int, sumF (fun i => f (X'.getD i 0)) X.length = sumF (fun i => f (X.getD i 0)) X.length

theorem Dealt.refl (a b : Nat) (X : List Int) : Dealt a b X X := ⟨rfl, fun i h1 h2 => ⟨i, h1, h2, rfl⟩, fun _ _ => rfl, fun _ => rfl⟩
theorem Dealt.trans {a b : Nat} {X Y Z : List Int} (h : Dealt a b X Y) (k : Dealt a b Y Z) : Dealt a b X Z := by
  refine ⟨k.len.trans h.len, ?_, fun i hi => (k.out i hi).trans (h.out i hi), fun f => ?_⟩
  · intro i h1 h2
    obtain ⟨j, j1, j2, e⟩ := k.src i h1 h2
    obtain ⟨l, l1, l2, e2⟩ := h.src j j1 j2
    exact ⟨l, l1, l2, e.trans e2⟩
  · have := k.bag f
    rw [h.len] at this
    exact this.trans (h.bag f)
theorem Dealt.mono {a b a' b' : Nat} {X Y : List Int} (h : Dealt a b X Y) (h1 : a' ≤ a) (h2 : b ≤ b') : Dealt a' b' X Y := by
  refine ⟨h.len, ?_, fun i hi => h.out i (by omega), h.bag⟩
  intro i i1 i2
  by_cases e : a ≤ i ∧ i < b
  · obtain ⟨j, j1, j2, e2⟩ := h.src i e.1 e.2
    exact ⟨j, by omega, by omega, e2⟩
  · exact ⟨i, i1, i2, h.out i (by omega)⟩

/-- Two places change their numbers. -/
def swp (X : List Int) (p q : Nat) : List Int := (X.set p (X.getD q 0)).set q (X.getD p 0)
theorem swp_len (X : List Int) (p q : Nat) : (swp X p q).length = X.length := by simp [swp]
theorem swp_at (X : List Int) {p q : Nat} (hp : p < X.length) (hq : q < X.length) (i : Nat) : (swp X p q).getD i 0 = if i = q then X.getD p 0 else if i = p then X.getD q 0 else X.getD i 0 := by
  unfold swp
  rw [getD_set _ _ _ _ (by rw [List.length_set]; exact hq), getD_set _ _ _ _ hp]
theorem dealt_swp {a b p q : Nat} {X : List Int} (hp1 : a ≤ p) (hp2 : p < b) (hq1 : a ≤ q) (hq2 : q < b) (hb : b ≤ X.length) : Dealt a b X (swp X p q) := by
  have hat := swp_at X (show p < X.length by omega) (show q < X.length by omega)
  refine ⟨swp_len X p q, ?_, ?_, ?_⟩
  · intro i h1 h2
    rw [hat]
    by_cases e1 : i = q
    · exact ⟨p, hp1, hp2, by rw [if_pos e1]⟩
    · by_cases e2 : i = p
      · exact ⟨q, hq1, hq2, by rw [if_neg e1, if_pos e2]⟩
      · exact ⟨i, h1, h2, by rw [if_neg e1, if_neg e2]⟩
  · intro i hi
    rw [hat, if_neg (by omega), if_neg (by omega)]
  · intro f
    by_cases e : p = q
    · refine sumF_congr _ (fun i hi => ?_)
      rw [hat]
      by_cases e1 : i = q
      · rw [if_pos e1, e1, e]
      · rw [if_neg e1, if_neg (by omega)]
    · have h1 := sumF_one (f := fun i => f ((swp X p q).getD i 0)) (h := fun i => f (if i = p then X.getD q 0 else X.getD i 0)) (n := X.length) (m := q) (by omega) (fun i _ hne => by rw [hat, if_neg hne])
      have h2 := sumF_one (f := fun i => f (if i = p then X.getD q 0 else X.getD i 0)) (h := fun i => f (X.getD i 0)) (n := X.length) (m := p) (by omega) (fun i _ hne => by rw [if_neg hne])
      rw [h1, h2, hat, if_pos rfl, if_pos rfl, if_neg (fun e2 => e e2.symm)]
      omega

/-- In order by key, from a to b. -/
def Srtd (key : Int → Int) (X : List Int) (a b : Nat) : Prop := ∀ k, a ≤ k → k + 1 < b → key (X.getD k 0) ≤ key (X.getD (k + 1) 0)
theorem Srtd.le {key : Int → Int} {X : List Int} {a b : Nat} (h : Srtd key X a b) {i j : Nat} (h1 : a ≤ i) (h2 : i ≤ j) (h3 : j < b) : key (X.getD i 0) ≤ key (X.getD j 0) := by
  induction j with
  | zero => have : i = 0 := by omega
            rw [this]; exact Int.le_refl _
  | succ j ih =>
    by_cases e : i = j + 1
    · rw [e]; exact Int.le_refl _
    · exact Int.le_trans (ih (by omega) (by omega)) (h j (by omega) h3)
theorem Srtd.congr {key : Int → Int} {X Y : List Int} {a b : Nat} (h : Srtd key X a b) (e : ∀ i, a ≤ i → i < b → Y.getD i 0 = X.getD i 0) : Srtd key Y a b := by
  intro k h1 h2
  rw [e k h1 (by omega), e (k + 1) (by omega) h2]
  exact h k h1 h2
theorem Srtd.join {key : Int → Int} {X : List Int} {a m b : Nat} (h1 : Srtd key X a m) (h2 : Srtd key X m b) (h : ∀ i j, a ≤ i → i < m → m ≤ j → j < b → key (X.getD i 0) ≤ key (X.getD j 0)) : Srtd key X a b := by
  intro k k1 k2
  by_cases e : k + 1 < m
  · exact h1 k k1 e
  · by_cases e2 : m ≤ k
    · exact h2 k e2 k2
    · exact h k (k + 1) k1 (by omega) (by omega) k2
theorem Srtd.sub {key : Int → Int} {X : List Int} {a b a' b' : Nat} (h : Srtd key X a b) (h1 : a ≤ a') (h2 : b' ≤ b) : Srtd key X a' b' := fun k k1 k2 => h k (by omega) (by omega)

/-- Two stretches of n places change places. -/
def swR (x : Nat → Int) (a b n i : Nat) : Int := if a ≤ i ∧ i < a + n then x (i - a + b) else if b ≤ i ∧ i < b + n then x (i - b + a) else x i
/-- The stretch a .. b-1 turned so that m comes to a. -/
def rotR (x : Nat → Int) (a m b i : Nat) : Int := if a ≤ i ∧ i < a + (b - m) then x (i + (m - a)) else if a + (b - m) ≤ i ∧ i < b then x (i - (b - m)) else x i

theorem rot_gt (x : Nat → Int) (m i j : Nat) (hi : i ≤ m) (hj : 0 < j) (hij : j < i) (t : Nat) : rotR x (m - i) m (m + j) t = rotR (fun u => swR x (m - i) m j u) (m - i + j) m (m + j) t := by
  simp only [rotR, swR]
  repeat' split
  all_goals first | (exfalso; omega) | (congr 1 <;> omega)
theorem rot_lt (x : Nat → Int) (m i j : Nat) (hi : i ≤ m) (h0 : 0 < i) (hij : i < j) (t : Nat) : rotR x (m - i) m (m + j) t = rotR (fun u => swR x (m - i) (m + j - i) i u) (m - i) m (m + (j - i)) t := by
  simp only [rotR, swR]
  repeat' split
  all_goals first | (exfalso; omega) | (congr 1 <;> omega)
theorem rot_eq (x : Nat → Int) (m i : Nat) (hi : i ≤ m) (t : Nat) : rotR x (m - i) m (m + i) t = swR x (m - i) m i t := by
  simp only [rotR, swR]
  repeat' split
  all_goals first | (exfalso; omega) | (congr 1 <;> omega)

theorem sym_split {key : Int → Int} {X X1 : List Int} {a m b mid s e : Nat} (h1 : Srtd key X a m) (h2 : Srtd key X m b) (has : a ≤ s) (hsm : s ≤ m) (hsd : s ≤ mid) (he : e = mid + m - s) (heb : e ≤ b) (hmid : mid ≤ b)
    (P1 : s = a ∨ e = b ∨ key (X.getD (s - 1) 0) ≤ key (X.getD e 0)) (P2 : s = m ∨ s = mid ∨ key (X.getD (e - 1) 0) ≤ key (X.getD s 0)) (hX1 : ∀ i, X1.getD i 0 = rotR (fun u => X.getD u 0) s m e i) :
    Srtd key X1 a s ∧ Srtd key X1 s mid ∧ Srtd key X1 mid e ∧ Srtd key X1 e b ∧ ∀ i j, a ≤ i → i < mid → mid ≤ j → j < b → key (X1.getD i 0) ≤ key (X1.getD j 0) := by
  have r1 : ∀ i, i < s → X1.getD i 0 = X.getD i 0 := fun i hi => by rw [hX1]; unfold rotR; rw [if_neg (by omega), if_neg (by omega)]
  have r2 : ∀ i, s ≤ i → i < mid → X1.getD i 0 = X.getD (i + (m - s)) 0 := fun i h3 h4 => by rw [hX1]; unfold rotR; rw [if_pos (by omega)]
  have r3 : ∀ i, mid ≤ i → i < e → X1.getD i 0 = X.getD (i - (e - m)) 0 := fun i h3 h4 => by rw [hX1]; unfold rotR; rw [if_neg (by omega), if_pos (by omega)]
  have r4 : ∀ i, e ≤ i → X1.getD i 0 = X.getD i 0 := fun i h3 => by rw [hX1]; unfold rotR; rw [if_neg (by omega), if_neg (by omega)]
  refine ⟨?_, ?_, ?_, ?_, ?_⟩
  · intro k k1 k2; rw [r1 k (by omega), r1 (k + 1) (by omega)]; exact h1 k k1 (by omega)
  · intro k k1 k2; rw [r2 k k1 (by omega), r2 (k + 1) (by omega) k2, show k + 1 + (m - s) = k + (m - s) + 1 by omega]; exact h2 _ (by omega) (by omega)
  · intro k k1 k2; rw [r3 k k1 (by omega), r3 (k + 1) (by omega) k2, show k + 1 - (e - m) = k - (e - m) + 1 by omega]; exact h1 _ (by omega) (by omega)
  · intro k k1 k2; rw [r4 k k1, r4 (k + 1) (by omega)]; exact h2 k (by omega) k2
  · intro i j i1 i2 j1 j2
    by_cases c1 : i < s
    · rw [r1 i c1]
      by_cases c2 : j < e
      · rw [r3 j j1 c2]
        exact h1.le i1 (by omega) (by omega)
      · rw [r4 j (by omega)]
        rcases P1 with p | p | p
        · omega
        · omega
        · exact Int.le_trans (h1.le i1 (show i ≤ s - 1 by omega) (by omega)) (Int.le_trans p (h2.le (by omega) (by omega) j2))
    · rw [r2 i (by omega) i2]
      by_cases c2 : j < e
      · rw [r3 j j1 c2]
        rcases P2 with p | p | p
        · omega
        · omega
        · exact Int.le_trans (h2.le (by omega) (show i + (m - s) ≤ e - 1 by omega) (by omega)) (Int.le_trans p (h1.le (by omega) (by omega) (by omega)))
      · rw [r4 j (by omega)]
        exact h2.le (by omega) (by omega) j2

theorem sym_join {key : Int → Int} {X1 X2 X3 : List Int} {a mid b : Nat} (hc : ∀ i j, a ≤ i → i < mid → mid ≤ j → j < b → key (X1.getD i 0) ≤ key (X1.getD j 0)) (d2 : Dealt a mid X1 X2) (s2 : Srtd key X2 a mid) (d3 : Dealt mid b X2 X3) (s3 : Srtd key X3 mid b) : Srtd key X3 a b := by
  refine Srtd.join (m := mid) (s2.congr (fun i _ i2 => d3.out i (.inl i2))) s3 ?_
  intro i j i1 i2 j1 j2
  rw [d3.out i (.inl i2)]
  obtain ⟨p, p1, p2, e1⟩ := d2.src i i1 i2
  obtain ⟨q, q1, q2, e2⟩ := d3.src j j1 j2
  rw [e1, e2, d2.out q (.inr q1)]
  exact hc p q p1 p2 q1 q2

/-- Inside an insertion: all is in order but at j. -/
structure InsAt (key : Int → Int) (X : List Int) (a i j : Nat) : Prop where
  ord : ∀ k, a ≤ k → k + 1 ≤ i → k + 1 ≠ j → key (X.getD k 0) ≤ key (X.getD (k + 1) 0)
  over : a < j → j < i → key (X.getD (j - 1) 0) ≤ key (X.getD (j + 1) 0)
theorem InsAt.start {key : Int → Int} {X : List Int} {a i : Nat} (h : Srtd key X a i) : InsAt key X a i i := ⟨fun k k1 k2 k3 => h k k1 (by omega), fun _ h => by omega⟩
theorem InsAt.step {key : Int → Int} {X : List Int} {a i j : Nat} (h : InsAt key X a i j) (haj : a < j) (hji : j ≤ i) (hi : i < X.length) (hlt : key (X.getD j 0) < key (X.getD (j - 1) 0)) : InsAt key (swp X j (j - 1)) a i (j - 1) := by
  have hat := swp_at X (show j < X.length by omega) (show j - 1 < X.length by omega)
  refine ⟨?_, ?_⟩
  · intro k k1 k2 k3
    by_cases e1 : k + 1 = j
    · rw [hat, if_pos (by omega), hat, if_neg (by omega), if_pos e1]; omega
    · by_cases e2 : k = j
      · rw [hat k, if_neg (by omega), if_pos e2, hat, if_neg (by omega), if_neg (by omega), e2]
        exact h.over haj (by omega)
      · rw [hat k, if_neg (by omega), if_neg e2, hat, if_neg (by omega), if_neg e1]
        exact h.ord k k1 k2 e1
  · intro h1 h2
    rw [hat, if_neg (by omega), if_neg (by omega), hat, if_neg (by omega), if_pos (by omega)]
    have := h.ord (j - 2) (by omega) (by omega) (by omega)
    rw [show j - 2 + 1 = j - 1 by omega] at this
    rw [show j - 1 - 1 = j - 2 by omega]
    exact this
theorem InsAt.done {key : Int → Int} {X : List Int} {a i j : Nat} (h : InsAt key X a i j) (haj : a ≤ j) (hst : a < j → key (X.getD (j - 1) 0) ≤ key (X.getD j 0)) : Srtd key X a (i + 1) := by
  intro k k1 k2
  by_cases e : k + 1 = j
  · have := hst (by omega)
    rw [← e] at this
    simpa using this
  · exact h.ord k k1 (by omega) e

/-- A place where a new run may begin. -/
def Brk (bs p : Nat) : Prop := ∃ q, p = q * bs
theorem no_brk {bs q p : Nat} (h1 : q * bs < p) (h2 : p < q * bs + bs) : ¬ Brk bs p := by
  rintro ⟨r, rfl⟩
  have a1 : q < r := Nat.lt_of_mul_lt_mul_right h1
  have a2 : r < q + 1 := by
    have : r * bs < (q + 1) * bs := by rw [Nat.succ_mul]; exact h2
    exact Nat.lt_of_mul_lt_mul_right this
  omega
theorem Brk.double {bs p : Nat} (h : Brk (2 * bs) p) : Brk bs p := by
  obtain ⟨q, rfl⟩ := h
  exact ⟨q * 2, by rw [Nat.mul_assoc]⟩

/-- Runs of bs places, each in order, up to n. -/
def Runs (key : Int → Int) (X : List Int) (bs lo n : Nat) : Prop := ∀ k, lo ≤ k → k + 1 < n → ¬ Brk bs (k + 1) → key (X.getD k 0) ≤ key (X.getD (k + 1) 0)
end Go.Proofs.Qxb6604297a.Srt
