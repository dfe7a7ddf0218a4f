/-
  The counted symbols, found by a scan and then sorted: plain facts.
-/
import Derived.Test.Qxb6604297aPM2
import Derived.Test.Qxb6604297aSortS
import Derived.Test.Qxb6604297aTake
set_option linter.unusedVariables false
namespace Go.Proofs.Qxb6604297a
open Huff (sumF sumF_succ sumF_congr)

/-- The counted symbols below i. -/
def scan (cs : List Int) : Nat → List Int
  | 0 => []
  | i + 1 => if 0 < cs.getD i 0 then scan cs i ++ [(i : Int)] else scan cs i
/-- What they count together. -/
def tot (cs : List Int) : Nat → Int
  | 0 => 0
  | i + 1 => tot cs i + if 0 < cs.getD i 0 then cs.getD i 0 else 0

theorem scan_len (cs : List Int) (i : Nat) : (scan cs i).length ≤ i := by
  induction i with
  | zero => simp [scan]
  | succ i ih => simp only [scan]; split <;> (try rw [List.length_append, List.length_singleton]) <;> omega
theorem scan_at (cs : List Int) (i : Nat) : ∀ k, k < (scan cs i).length → ∃ s : Nat, s < i ∧ (scan cs i).getD k 0 = (s : Int) ∧ 0 < cs.getD s 0 := by
  induction i with
  | zero => intro k hk; simp [scan] at hk
  | succ i ih =>
    intro k hk
    by_cases c : 0 < cs.getD i 0
    · have e : scan cs (i + 1) = scan cs i ++ [(i : Int)] := by simp only [scan]; rw [if_pos c]
      rw [e] at hk ⊢
      by_cases h : k < (scan cs i).length
      · obtain ⟨s, h1, h2, h3⟩ := ih k h
        refine ⟨s, by omega, ?_, h3⟩
        rw [← h2]
        simp [List.getD_eq_getElem?_getD, List.getElem?_append_left h]
      · have hk' : k = (scan cs i).length := by simp at hk; omega
        subst hk'
        exact ⟨i, by omega, by simp [List.getD_eq_getElem?_getD], c⟩
    · have e : scan cs (i + 1) = scan cs i := by simp only [scan]; rw [if_neg c]
      rw [e] at hk ⊢
      obtain ⟨s, h1, h2, h3⟩ := ih k hk
      exact ⟨s, by omega, h2, h3⟩
theorem scan_bag (cs : List Int) (f : Int → Int) (i : Nat) : sumF (fun k => f ((scan cs i).getD k 0)) (scan cs i).length = sumF (fun s => if 0 < cs.getD s 0 then f (s : Int) else 0) i := by
  induction i with
  | zero => simp [scan, sumF]
  | succ i ih =>
    rw [sumF_succ, ← ih]
    by_cases c : 0 < cs.getD i 0
    · have e : scan cs (i + 1) = scan cs i ++ [(i : Int)] := by simp only [scan]; rw [if_pos c]
      rw [e, if_pos c, List.length_append]
      show sumF _ ((scan cs i).length + 1) = _
      rw [sumF_succ]
      congr 1
      · refine sumF_congr _ (fun k hk => ?_)
        simp [List.getD_eq_getElem?_getD, List.getElem?_append_left hk]
      · simp [List.getD_eq_getElem?_getD]
    · have e : scan cs (i + 1) = scan cs i := by simp only [scan]; rw [if_neg c]
      rw [e, if_neg c]
      omega
theorem tot_eq (cs : List Int) (i : Nat) : sumF (fun s => if 0 < cs.getD s 0 then cs.getD s 0 else 0) i = tot cs i := by
  induction i with
  | zero => rfl
  | succ i ih => rw [sumF_succ, ih]; rfl

theorem sumF_pick (f : Nat → Int) (s n : Nat) : sumF (fun i => if i = s then f i else 0) n = if s < n then f s else 0 := by
  induction n with
  | zero => simp [sumF]
  | succ n ih =>
    rw [sumF_succ, ih]
    by_cases h : n = s
    · subst h; simp
    · rw [if_neg h]
      by_cases h2 : s < n
      · rw [if_pos h2, if_pos (by omega)]; omega
      · rw [if_neg h2, if_neg (by omega)]; omega
theorem sumF_two (f : Nat → Int) (n : Nat) (h : ∀ i, i < n → 0 ≤ f i) {i j : Nat} (hij : i < j) (hj : j < n) : f i + f j ≤ sumF f n := by
  induction n with
  | zero => omega
  | succ n ih =>
    rw [sumF_succ]
    by_cases e : j = n
    · subst e
      have := PM.sumF_one f j (fun k hk => h k (by omega)) hij
      omega
    · have := ih (fun k hk => h k (by omega)) (by omega)
      have := h n (by omega)
      omega
theorem sumF_some {f : Nat → Int} {n : Nat} (h : sumF f n ≠ 0) : ∃ i, i < n ∧ f i ≠ 0 := by
  induction n with
  | zero => exact absurd rfl h
  | succ n ih =>
    rw [sumF_succ] at h
    by_cases c : f n = 0
    · obtain ⟨i, hi, hf⟩ := ih (by rw [c] at h; omega)
      exact ⟨i, by omega, hf⟩
    · exact ⟨n, by omega, c⟩

/-- The counted symbols in some order: each once, none lacking. -/
structure Covers (cs us : List Int) : Prop where
  src : ∀ i, i < us.length → ∃ s : Nat, s < cs.length ∧ us.getD i 0 = (s : Int) ∧ 0 < cs.getD s 0
  dist : ∀ i j, i < us.length → j < us.length → us.getD i 0 = us.getD j 0 → i = j
  all : ∀ s : Nat, s < cs.length → 0 < cs.getD s 0 → ∃ i, i < us.length ∧ us.getD i 0 = (s : Int)
  sum : sumF (fun i => cs.getD (us.getD i 0).toNat 0) us.length = tot cs cs.length

theorem covers_of {cs X : List Int} (d : Srt.Dealt 0 (scan cs cs.length).length (scan cs cs.length) X) : Covers cs X := by
  have hl := d.len
  have bag : ∀ f : Int → Int, sumF (fun k => f (X.getD k 0)) X.length = sumF (fun s => if 0 < cs.getD s 0 then f (s : Int) else 0) cs.length := by
    intro f
    rw [hl, d.bag f, scan_bag]
  have ind : ∀ s : Nat, s < cs.length → sumF (fun k => if X.getD k 0 = (s : Int) then (1 : Int) else 0) X.length = if 0 < cs.getD s 0 then 1 else 0 := by
    intro s hs
    rw [bag (fun x => if x = (s : Int) then 1 else 0)]
    have e : ∀ k, (if 0 < cs.getD k 0 then (if (k : Int) = (s : Int) then (1 : Int) else 0) else 0) = if k = s then (if 0 < cs.getD k 0 then 1 else 0) else 0 := by
      intro k
      by_cases h : k = s
      · subst h; simp
      · rw [if_neg (show ¬ ((k : Int) = (s : Int)) by omega), if_neg h]; split <;> rfl
    rw [sumF_congr _ (fun k _ => e k), sumF_pick (fun k => if 0 < cs.getD k 0 then 1 else 0), if_pos hs]
  have src : ∀ i, i < X.length → ∃ s : Nat, s < cs.length ∧ X.getD i 0 = (s : Int) ∧ 0 < cs.getD s 0 := by
    intro i hi
    obtain ⟨j, _, hj, e⟩ := d.src i (Nat.zero_le _) (by omega)
    obtain ⟨s, h1, h2, h3⟩ := scan_at cs cs.length j hj
    exact ⟨s, h1, e.trans h2, h3⟩
  refine ⟨src, ?_, ?_, ?_⟩
  · have key : ∀ i j, i < j → j < X.length → X.getD i 0 = X.getD j 0 → False := by
      intro i j hij hj e
      obtain ⟨s, h1, h2, h3⟩ := src i (by omega)
      have h := sumF_two (fun k => if X.getD k 0 = (s : Int) then (1 : Int) else 0) X.length (fun k _ => by split <;> omega) hij hj
      rw [ind s h1, if_pos h3] at h
      rw [if_pos h2, if_pos (e ▸ h2)] at h
      omega
    intro i j hi hj e
    rcases Nat.lt_trichotomy i j with h | h | h
    · exact (key i j h hj e).elim
    · exact h
    · exact (key j i h hi e.symm).elim
  · intro s hs hp
    have h := ind s hs
    rw [if_pos hp] at h
    obtain ⟨i, hi, hf⟩ := sumF_some (f := fun k => if X.getD k 0 = (s : Int) then (1 : Int) else 0) (n := X.length) (by rw [h]; omega)
    refine ⟨i, hi, ?_⟩
    apply Classical.byContradiction
    intro hc
    exact hf (if_neg hc)
  · rw [bag (fun x => cs.getD x.toNat 0), ← tot_eq]
    rfl

theorem asc_of {cs X : List Int} {n : Nat} (h : Srt.Srtd (keyOf cs) X 0 n) : ∀ i j, i ≤ j → j < n → cs.getD (X.getD i 0).toNat 0 ≤ cs.getD (X.getD j 0).toNat 0 := by
  intro i j hij hj
  induction j with
  | zero => have : i = 0 := by omega
            subst this; exact Int.le_refl _
  | succ j ih =>
    by_cases e : i = j + 1
    · subst e; exact Int.le_refl _
    · have h1 := ih (by omega) (by omega)
      have h2 := h j (Nat.zero_le _) hj
      unfold keyOf at h2
      omega

theorem hdom_of {cs X : List Int} (d : Srt.Dealt 0 (scan cs cs.length).length (scan cs cs.length) X) (hs : Srt.Srtd (keyOf cs) X 0 X.length) (h2 : 2 ≤ X.length) (ht : tot cs cs.length ≤ 1125899906842624) : HDom cs X cs.length := by
  have hc := covers_of d
  refine ⟨h2, ?_, hc.dist, ?_, asc_of hs, by rw [hc.sum]; exact ht⟩
  · intro i hi
    obtain ⟨s, h1, h2, h3⟩ := hc.src i hi
    omega
  · intro i hi
    obtain ⟨s, h1, h2, h3⟩ := hc.src i hi
    rw [h2, Int.toNat_natCast]
    omega
end Go.Proofs.Qxb6604297a
