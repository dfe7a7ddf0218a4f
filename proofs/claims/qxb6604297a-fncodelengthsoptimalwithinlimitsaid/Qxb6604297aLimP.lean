/-
  What the law on the least cost asks, in plain words.
-/
import Derived.Test.Qxb6604297aCodePath
import Derived.Test.Qxb6604297aSortD
set_option linter.unusedVariables false
namespace Go.Proofs.Qxb6604297a
open Huff (sumF sumF_succ sumF_congr)

/-- The positive counts below i. -/
def posl (cs : List Int) : Nat → List Int
  | 0 => []
  | i + 1 => if 0 < cs.getD i 0 then posl cs i ++ [cs.getD i 0] else posl cs i
theorem posl_len (cs : List Int) (i : Nat) : (posl cs i).length = (scan cs i).length := by
  induction i with
  | zero => rfl
  | succ i ih => simp only [posl, scan]; split <;> simp [ih]
theorem bag_snoc (f : Int → Int) (xs : List Int) (x : Int) : bag f (xs ++ [x]) = bag f xs + f x := by
  unfold bag
  rw [List.length_append]
  show sumF _ (xs.length + 1) = _
  rw [sumF_succ]
  congr 1
  · refine sumF_congr _ (fun i hi => ?_)
    simp [List.getD_eq_getElem?_getD, List.getElem?_append_left hi]
  · simp [List.getD_eq_getElem?_getD]
theorem posl_bag (f : Int → Int) (cs : List Int) (i : Nat) : bag f (posl cs i) = sumF (fun s => if 0 < cs.getD s 0 then f (cs.getD s 0) else 0) i := by
  induction i with
  | zero => rfl
  | succ i ih =>
    simp only [posl]
    rw [sumF_succ, ← ih]
    by_cases c : 0 < cs.getD i 0
    · rw [if_pos c, if_pos c, bag_snoc]
    · rw [if_neg c, if_neg c]; omega
def csum (cs L : List Int) (i : Nat) : Int := sumF (fun s => if 0 < cs.getD s 0 then cs.getD s 0 * L.getD s 0 else 0) i
theorem csum_bound {cs L : List Int} {n : Nat} (h : ∀ s, s < n → 0 < cs.getD s 0 → 1 ≤ L.getD s 0 ∧ L.getD s 0 ≤ 101) : ∀ i, i ≤ n → 0 ≤ csum cs L i ∧ csum cs L i ≤ 101 * tot cs i := by
  intro i
  induction i with
  | zero => intro _; exact ⟨Int.le_refl _, Int.le_refl _⟩
  | succ i ih =>
    intro hi
    have h1 := ih (by omega)
    unfold csum at h1 ⊢
    rw [sumF_succ]
    simp only [tot]
    by_cases c : 0 < cs.getD i 0
    · rw [if_pos c, if_pos c]
      have h2 := h i (by omega) c
      have h3 : 0 ≤ cs.getD i 0 * L.getD i 0 := Int.mul_nonneg (by omega) (by omega)
      have h4 : cs.getD i 0 * L.getD i 0 ≤ cs.getD i 0 * 101 := Int.mul_le_mul_of_nonneg_left h2.2 (by omega)
      omega
    · rw [if_neg c, if_neg c]
      omega

/-! ### two ascending rows of the same numbers are the same -/
theorem asc_half {f g : Nat → Int} {n : Nat} (hf : ∀ i j, i ≤ j → j < n → f i ≤ f j) (hg : ∀ i j, i ≤ j → j < n → g i ≤ g j) (hb : ∀ φ : Int → Int, sumF (fun i => φ (f i)) n = sumF (fun i => φ (g i)) n) {i : Nat} (hi : i < n) : g i ≤ f i := by
  apply Classical.byContradiction
  intro hc
  have h := hb (fun x => if x ≤ f i then 1 else 0)
  have nn : ∀ x : Int, (0 : Int) ≤ (if x ≤ f i then 1 else 0) := fun x => by split <;> omega
  have h1 := Huff.sumF_inc (g := fun j => if f j ≤ f i then (1 : Int) else 0) (show i + 1 ≤ n by omega) (fun j => nn _)
  have h2 : sumF (fun j => if f j ≤ f i then (1 : Int) else 0) (i + 1) = ((i + 1 : Nat) : Int) * 1 := by
    rw [← PM.sumF_const]
    exact sumF_congr _ (fun j hj => by rw [if_pos (hf j i (by omega) hi)])
  have h3 := Huff.sumF_same (g := fun j => if g j ≤ f i then (1 : Int) else 0) (show i ≤ n by omega) (fun j h1 h2 => by
    rw [if_neg]
    have := hg i j h1 h2
    omega)
  have h4 : sumF (fun j => if g j ≤ f i then (1 : Int) else 0) i ≤ (i : Int) * 1 := by
    rw [← PM.sumF_const]
    exact Huff.sumF_le (fun j _ => by split <;> omega)
  omega
theorem asc_same {f g : Nat → Int} {n : Nat} (hf : ∀ i j, i ≤ j → j < n → f i ≤ f j) (hg : ∀ i j, i ≤ j → j < n → g i ≤ g j) (hb : ∀ φ : Int → Int, sumF (fun i => φ (f i)) n = sumF (fun i => φ (g i)) n) {i : Nat} (hi : i < n) : f i = g i :=
  Int.le_antisymm (asc_half hg hf (fun φ => (hb φ).symm) hi) (asc_half hf hg hb hi)

theorem desc_is {cs us : List Int} (hd : HDom cs us cs.length) (hc : Covers cs us) (hl : us.length = (scan cs cs.length).length) {Y : List Int} (h : Desc (posl cs cs.length) Y us.length) : ∀ q, q < us.length → Y.getD q 0 = wts cs us (us.length - 1 - q) := by
  have hYl : Y.length = us.length := by rw [h.len, posl_len, hl]
  have h2 := hd.two
  obtain ⟨k, hk⟩ : ∃ k, us.length = k + 1 := ⟨us.length - 1, by omega⟩
  intro q hq
  have key := asc_same (f := fun i => Y.getD (k - i) 0) (g := wts cs us) (n := us.length) (fun i j hij hj => h.desc (k - j) (k - i) (by omega) (by omega)) hd.asc (by
    intro φ
    have e1 : sumF (fun i => φ (Y.getD (k - i) 0)) us.length = sumF (fun i => φ (Y.getD i 0)) us.length := by
      rw [hk]
      exact PM.sumF_rev (fun i => φ (Y.getD i 0)) k
    have e2 := h.bag φ
    rw [posl_bag] at e2
    unfold bag at e2
    rw [hYl] at e2
    have e3 := covers_sum hc (fun s => φ (cs.getD s 0))
    rw [e1, e2, ← e3]
    rfl) (i := us.length - 1 - q) (by omega)
  rw [← key]
  congr 1
  omega

/-- All that the law needs of the plain side. -/
structure LimFacts (cs L : List Int) (lim n m : Nat) (C : Nat → Int) (R A : Nat → Nat) : Prop where
  pos : ∀ i, i < n → 1 ≤ C i
  sum : sumF C n ≤ 1125899906842624
  path : DP.Path n m R A
  fit : m ≤ lim
  deep : m ≤ 101
  least : Least n lim C (wcost C R m)
  cost : csum cs L cs.length = wcost C R m
  desc : ∀ Y, Desc (posl cs cs.length) Y n → ∀ q, q < n → Y.getD q 0 = C (n - 1 - q)
  kraft : sumF (fun i => if 0 < L.getD i 0 then (2 : Int) ^ (255 - (L.getD i 0).toNat) else 0) L.length = 2 ^ 255

theorem lim_facts {cs L : List Int} {lim : Nat} (h : CLen cs lim L) (h1 : 1 ≤ lim) (hk : 2 ≤ (scan cs cs.length).length → (scan cs cs.length).length ≤ 2 ^ lim) (ht : tot cs cs.length ≤ 1125899906842624) (h2 : 2 ≤ (scan cs cs.length).length) :
    ∃ (m : Nat) (C : Nat → Int) (R A : Nat → Nat), LimFacts cs L lim (scan cs cs.length).length m C R A := by
  obtain ⟨us, d, hd, hc, hl, hco, hL, hsrc⟩ := clen_code h h1 hk h2
  have hn : 1 ≤ us.length := by omega
  rw [← hl]
  have hcost := code_cost hco hn (wts cs us)
  refine ⟨d 0, wts cs us, fun e => longer d e us.length, slots d us.length, hd.pos, hd.sum, code_path hco hn, hco.hi 0 (by omega), hco.top 0 (by omega), ?_, ?_, fun Y hY => desc_is hd hc hl hY, ?_⟩
  · rw [hcost]
    rcases hsrc with ⟨s0, D, hs, hdep, hD⟩ | hD
    · have := Huff.least hs hd.pos hd.asc hd.two hdep lim
      rw [sumF_congr us.length (h := fun i => wts cs us i * (d i : Int)) (fun i hi => by rw [hD i hi])] at this
      exact this
    · have := PM.least (C := wts cs us) hd.pos hd.asc hn (lim - 1)
      rw [show lim - 1 + 1 = lim by omega, sumF_congr us.length (h := fun i => wts cs us i * (d i : Int)) (fun i hi => by rw [hD i hi])] at this
      exact this
  · rw [hcost]
    unfold csum
    rw [← covers_sum hc (fun s => cs.getD s 0 * L.getD s 0)]
    exact sumF_congr us.length (fun i hi => by rw [hL i hi]; rfl)
  · have e1 := covers_sum hc (fun s => (2 : Int) ^ (255 - (L.getD s 0).toNat))
    rw [← hco.kraft, h.len]
    rw [sumF_congr us.length (h := fun i => (2 : Int) ^ (255 - d i)) (fun i hi => by rw [hL i hi, Int.toNat_natCast])] at e1
    rw [e1]
    refine sumF_congr cs.length (fun s hs => ?_)
    by_cases c : 0 < cs.getD s 0
    · have hon := (lens_of h h1 hk).on s hs c
      rw [if_pos c, if_pos (by omega)]
    · have hoff := h.off s hs (by omega)
      rw [if_neg c, if_neg (by omega)]
end Go.Proofs.Qxb6604297a
