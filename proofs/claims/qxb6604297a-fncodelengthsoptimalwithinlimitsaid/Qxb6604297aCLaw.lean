/-
  What codeLengths' lengths come to, in plain words.
-/
import Derived.Test.Qxb6604297aCL
set_option linter.unusedVariables false
namespace Go.Proofs.Qxb6604297a

theorem sumF_mul (c : Int) (f : Nat → Int) (n : Nat) : Huff.sumF (fun i => c * f i) n = c * Huff.sumF f n := by
  induction n with
  | zero => simp [Huff.sumF]
  | succ n ih => rw [Huff.sumF_succ, ih, Huff.sumF_succ, Int.mul_add]

/-- A complete code: lengths of the leaves in ascending order of their weights. -/
structure Code (n lim : Nat) (d : Nat → Nat) : Prop where
  lo : ∀ i, i < n → 1 ≤ d i
  hi : ∀ i, i < n → d i ≤ lim
  top : ∀ i, i < n → d i ≤ 101
  anti : ∀ i j, i ≤ j → j < n → d j ≤ d i
  kraft : Huff.sumF (fun i => (2 : Int) ^ (255 - d i)) n = 2 ^ 255

theorem code_huff {cs us : List Int} {lim : Nat} {s0 : Huff.HS} {D : List Int} (hd : HDom cs us cs.length) (hs : HStart (wts cs us) us.length s0) (hdep : Huff.Dep us.length (Huff.hrun us.length s0 (us.length - 1)).P D 0) (hfit : D.getD 0 0 ≤ (lim : Int)) :
    Code us.length lim (fun i => (D.getD i 0).toNat) ∧ ∀ i, i < us.length → D.getD i 0 = ((D.getD i 0).toNat : Int) := by
  have T := hs.done hd.asc hd.two
  have h2 := hd.two
  have hall : ∀ j, j ≤ 2 * us.length - 2 → D.getD j 0 ≤ 101 := fun j hj => Huff.dep_bound T hdep h2 hd.sum hj (Nat.zero_le _)
  have hlo : ∀ i, i < us.length → 1 ≤ D.getD i 0 := by
    intro i hi
    obtain ⟨p, h1, h3, h4, h5, h6⟩ := Huff.par_nat T (show i < 2 * us.length - 2 by omega)
    rw [hdep.step i (Nat.zero_le _) (by omega), h3]
    have := Huff.dep_nonneg T hdep h2 p h5 (Nat.zero_le _)
    omega
  refine ⟨⟨?_, ?_, ?_, ?_, ?_⟩, fun i hi => by have := hlo i hi; omega⟩
  · intro i hi
    have := hlo i hi
    show 1 ≤ (D.getD i 0).toNat
    omega
  · intro i hi
    have := (Huff.longest_laws T hdep h2).1 i hi
    show (D.getD i 0).toNat ≤ lim
    omega
  · intro i hi
    have := hall i (by omega)
    show (D.getD i 0).toNat ≤ 101
    omega
  · intro i j hij hj
    have := Huff.dep_mono_leaf T hdep h2 (Nat.zero_le _) hij hj
    show (D.getD j 0).toNat ≤ (D.getD i 0).toNat
    omega
  · exact Huff.kraft T hdep h2 255 (fun j hj => by have := hall j hj; omega)

theorem code_pm {cs us : List Int} {lim : Nat} (hd : HDom cs us cs.length) (h1 : 1 ≤ lim) (h100 : lim ≤ 100) (hk : us.length ≤ 2 ^ lim) : Code us.length lim (fun i => PM.D us.length (wts cs us) (lim - 1) i) := by
  have h2 := hd.two
  have el : lim - 1 + 1 = lim := by omega
  have hk' : us.length ≤ 2 ^ (lim - 1 + 1) := by rw [el]; exact hk
  have hle : ∀ i, PM.D us.length (wts cs us) (lim - 1) i ≤ lim := fun i => by have := PM.D_le us.length (wts cs us) (lim - 1) i; omega
  refine ⟨?_, fun i _ => hle i, fun i _ => Nat.le_trans (hle i) (by omega), ?_, ?_⟩
  · intro i hi
    exact PM.D_pos (C := wts cs us) hd.pos hd.asc h2 hk' hi
  · intro i j hij hj
    exact PM.D_mono us.length (wts cs us) (lim - 1) hij
  · have h := PM.D_kraft (C := wts cs us) hd.pos hd.asc (show 1 ≤ us.length by omega) hk'
    rw [el] at h
    have e : ∀ i, (2 : Int) ^ (255 - PM.D us.length (wts cs us) (lim - 1) i) = 2 ^ (255 - lim) * 2 ^ (lim - PM.D us.length (wts cs us) (lim - 1) i) := by
      intro i
      rw [← Int.pow_add]
      congr 1
      have := hle i
      omega
    rw [Huff.sumF_congr us.length (fun i _ => e i), sumF_mul, h, ← Int.pow_add]
    congr 1
    omega

/-- The lengths, and where they come from. -/
theorem clen_code {cs L : List Int} {lim : Nat} (h : CLen cs lim L) (h1 : 1 ≤ lim) (hk : 2 ≤ (scan cs cs.length).length → (scan cs cs.length).length ≤ 2 ^ lim) (h2 : 2 ≤ (scan cs cs.length).length) :
    ∃ us d, HDom cs us cs.length ∧ Covers cs us ∧ us.length = (scan cs cs.length).length ∧ Code us.length lim d ∧ (∀ i, i < us.length → L.getD (us.getD i 0).toNat 0 = (d i : Int)) ∧
      ((∃ (s0 : Huff.HS) (D : List Int), HStart (wts cs us) us.length s0 ∧ Huff.Dep us.length (Huff.hrun us.length s0 (us.length - 1)).P D 0 ∧ ∀ i, i < us.length → D.getD i 0 = (d i : Int)) ∨
       (∀ i, i < us.length → d i = PM.D us.length (wts cs us) (lim - 1) i)) := by
  obtain ⟨us, hd, hc, hl, hx⟩ := h.more h2
  rcases hx with ⟨s0, D, hs, hdep, hfit, hL⟩ | ⟨h100, hL⟩
  · obtain ⟨hco, hn⟩ := code_huff hd hs hdep hfit
    exact ⟨us, _, hd, hc, hl, hco, fun i hi => (hL i hi).trans (hn i hi), .inl ⟨s0, D, hs, hdep, hn⟩⟩
  · exact ⟨us, _, hd, hc, hl, code_pm hd h1 h100 (by rw [hl]; exact hk h2), hL, .inr (fun i _ => rfl)⟩

/-- What the law on heavier symbols asks. -/
structure Lens (cs : List Int) (lim : Nat) (L : List Int) : Prop where
  off : ∀ s, s < cs.length → cs.getD s 0 ≤ 0 → L.getD s 0 = 0
  on : ∀ s, s < cs.length → 0 < cs.getD s 0 → 1 ≤ L.getD s 0 ∧ L.getD s 0 ≤ (lim : Int) ∧ L.getD s 0 ≤ 101
  heavy : ∀ s t, s < cs.length → t < cs.length → 0 < cs.getD t 0 → cs.getD t 0 < cs.getD s 0 → L.getD s 0 ≤ L.getD t 0

theorem lens_of {cs L : List Int} {lim : Nat} (h : CLen cs lim L) (h1 : 1 ≤ lim) (hk : 2 ≤ (scan cs cs.length).length → (scan cs cs.length).length ≤ 2 ^ lim) : Lens cs lim L := by
  have hsc := covers_of (Srt.Dealt.refl 0 (scan cs cs.length).length (scan cs cs.length))
  by_cases h2 : 2 ≤ (scan cs cs.length).length
  · obtain ⟨us, d, hd, hc, hl, hco, hL, _⟩ := clen_code h h1 hk h2
    refine ⟨h.off, ?_, ?_⟩
    · intro s hs hp
      obtain ⟨i, hi, e⟩ := hc.all s hs hp
      have e2 := hL i hi
      rw [e, Int.toNat_natCast] at e2
      have a1 := hco.lo i hi
      have a2 := hco.hi i hi
      have a3 := hco.top i hi
      omega
    · intro s t hs ht hp hlt
      obtain ⟨i, hi, e⟩ := hc.all s hs (by omega)
      obtain ⟨j, hj, f⟩ := hc.all t ht hp
      have e2 := hL i hi
      have f2 := hL j hj
      rw [e, Int.toNat_natCast] at e2
      rw [f, Int.toNat_natCast] at f2
      have hji : j ≤ i := by
        apply Classical.byContradiction
        intro hn
        have := hd.asc i j (by omega) hj
        rw [e, f, Int.toNat_natCast, Int.toNat_natCast] at this
        omega
      have := hco.anti j i hji hi
      omega
  · have hone : ∀ s, s < cs.length → 0 < cs.getD s 0 → L.getD s 0 = 1 := by
      intro s hs hp
      obtain ⟨i, hi, e⟩ := hsc.all s hs hp
      exact h.one (by omega) s hs hp
    refine ⟨h.off, ?_, ?_⟩
    · intro s hs hp
      have := hone s hs hp
      omega
    · intro s t hs ht hp hlt
      have := hone s hs (by omega)
      have := hone t ht hp
      omega
end Go.Proofs.Qxb6604297a
