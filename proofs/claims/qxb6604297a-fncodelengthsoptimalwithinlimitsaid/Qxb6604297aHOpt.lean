/-
  Huffman's cost is the least: in plain words.
-/
import Derived.Test.Qxb6604297aPMOpt
import Derived.Test.Qxb6604297aPool
import Derived.Test.Qxb6604297aHuffC
set_option linter.unusedVariables false
namespace Go.Proofs.Qxb6604297a.Huff

/-! ### lists in ascending order -/
def ins (x : Int) : List Int → List Int
  | [] => [x]
  | y :: ys => if x ≤ y then x :: y :: ys else y :: ins x ys
/-- The sum of the first q. -/
def pre : Nat → List Int → Int
  | 0, _ => 0
  | _ + 1, [] => 0
  | q + 1, y :: ys => y + pre q ys
def Up : List Int → Prop
  | [] => True
  | y :: ys => (∀ z ∈ ys, y ≤ z) ∧ Up ys
/-- The sum of all merges of the two first. -/
def hc : Nat → List Int → Int
  | 0, _ => 0
  | _ + 1, [] => 0
  | _ + 1, [_] => 0
  | k + 1, a :: b :: rest => a + b + hc k (ins (a + b) rest)

theorem ins_len (x : Int) (ys : List Int) : (ins x ys).length = ys.length + 1 := by
  induction ys with
  | nil => rfl
  | cons y ys ih => simp only [ins]; split <;> simp [ih]
theorem ins_mem {x z : Int} {ys : List Int} (h : z ∈ ins x ys) : z = x ∨ z ∈ ys := by
  induction ys with
  | nil => simp [ins] at h; exact .inl h
  | cons y ys ih =>
    simp only [ins] at h
    split at h
    · simp only [List.mem_cons] at h ⊢; exact h
    · simp only [List.mem_cons] at h ⊢
      rcases h with h | h
      · exact .inr (.inl h)
      · rcases ih h with h | h
        · exact .inl h
        · exact .inr (.inr h)
theorem ins_up {x : Int} {ys : List Int} (h : Up ys) : Up (ins x ys) := by
  induction ys with
  | nil => exact ⟨fun z hz => by simp at hz, trivial⟩
  | cons y ys ih =>
    simp only [ins]
    split
    · rename_i hxy
      refine ⟨fun z hz => ?_, h⟩
      simp only [List.mem_cons] at hz
      rcases hz with hz | hz
      · omega
      · have := h.1 z hz; omega
    · rename_i hxy
      refine ⟨fun z hz => ?_, ih h.2⟩
      rcases ins_mem hz with hz | hz
      · omega
      · exact h.1 z hz
theorem pre_nil (q : Nat) : pre q [] = 0 := by cases q <;> rfl
theorem pre_nonneg {zs : List Int} (h : ∀ z ∈ zs, 0 ≤ z) (q : Nat) : 0 ≤ pre q zs := by
  induction zs generalizing q with
  | nil => rw [pre_nil]; exact Int.le_refl _
  | cons y ys ih =>
    cases q with
    | zero => exact Int.le_refl _
    | succ q =>
      have h1 := h y (by simp)
      have h2 := ih (fun z hz => h z (by simp [hz])) q
      show 0 ≤ y + pre q ys
      omega
theorem pre_more {x : Int} {zs : List Int} (h : ∀ z ∈ zs, x ≤ z) {q : Nat} (hq : q < zs.length) : pre q zs + x ≤ pre (q + 1) zs := by
  induction zs generalizing q with
  | nil => simp at hq
  | cons y ys ih =>
    cases q with
    | zero =>
      have := h y (by simp)
      show 0 + x ≤ y + 0
      omega
    | succ q =>
      have := ih (fun z hz => h z (by simp [hz])) (q := q) (by simp at hq; omega)
      show y + pre q ys + x ≤ y + pre (q + 1) ys
      omega
theorem pre_insA (x : Int) (ys : List Int) (q : Nat) : pre (q + 1) (ins x ys) ≤ x + pre q ys := by
  induction ys generalizing q with
  | nil => show x + pre q [] ≤ x + pre q []; exact Int.le_refl _
  | cons y ys ih =>
    simp only [ins]
    split
    · exact Int.le_refl _
    · rename_i hxy
      show y + pre q (ins x ys) ≤ x + pre q (y :: ys)
      cases q with
      | zero => show y + 0 ≤ x + 0; omega
      | succ q =>
        have := ih q
        show y + pre (q + 1) (ins x ys) ≤ x + (y + pre q ys)
        omega
theorem pre_insB (x : Int) {ys : List Int} (hu : Up ys) {q : Nat} (hq : q ≤ ys.length) : pre q (ins x ys) ≤ pre q ys := by
  induction ys generalizing q with
  | nil =>
    have : q = 0 := by simpa using hq
    rw [this]; exact Int.le_refl _
  | cons y ys ih =>
    cases q with
    | zero => exact Int.le_refl _
    | succ q =>
      simp only [ins]
      split
      · rename_i hxy
        have := pre_more (x := x) (zs := y :: ys) (q := q) (fun z hz => by
          simp only [List.mem_cons] at hz
          rcases hz with hz | hz
          · omega
          · have := hu.1 z hz; omega) (by simp at hq ⊢; omega)
        show x + pre q (y :: ys) ≤ pre (q + 1) (y :: ys)
        omega
      · have := ih hu.2 (q := q) (by simp at hq; omega)
        show y + pre q (ins x ys) ≤ y + pre q ys
        omega

theorem wsum_less {r s : Nat → Nat} (m : Nat) (h : ∀ e, e < m → s e + 1 = r e) : wsum s m + 2 ^ m = wsum r m + 1 := by
  induction m with
  | zero => rfl
  | succ m ih =>
    have h1 := ih (fun e he => h e (by omega))
    have h2 := h m (by omega)
    simp only [wsum]
    rw [Nat.pow_succ]
    omega

/-- HUFFMAN'S MERGES COST THE LEAST. -/
theorem hc_least (k : Nat) : ∀ zs : List Int, zs.length = k + 1 → Up zs → (∀ z ∈ zs, 0 ≤ z) → ∀ (m : Nat) (r : Nat → Nat), (∀ e, e < m → r e ≤ k + 1) → (∀ e f, e ≤ f → f < m → r f ≤ r e) → k * 2 ^ m ≤ wsum r m → hc k zs ≤ sumF (fun e => pre (r e) zs) m := by
  induction k with
  | zero =>
    intro zs _ _ hz m r _ _ _
    exact sumF_nonneg (fun e _ => pre_nonneg hz _)
  | succ k ihk =>
    intro zs hl hu hz m
    obtain ⟨a, b, rest, rfl⟩ : ∃ a b rest, zs = a :: b :: rest := by
      match zs, hl with
      | a :: b :: rest, _ => exact ⟨a, b, rest, rfl⟩
    have hlr : rest.length = k := by simp at hl; omega
    have ha : 0 ≤ a := hz a (by simp)
    have hb : 0 ≤ b := hz b (by simp)
    induction m with
    | zero =>
      intro r _ _ hw
      simp only [wsum, Nat.pow_zero] at hw
      omega
    | succ m ihm =>
      intro r hr hanti hw
      by_cases c : r m ≤ 1
      · have hw' : (k + 1) * 2 ^ m ≤ wsum r m := by
          simp only [wsum] at hw
          rw [Nat.pow_succ, ← Nat.mul_assoc] at hw
          omega
        have h1 := ihm r (fun e he => hr e (by omega)) (fun e f h1 h2 => hanti e f h1 (by omega)) hw'
        have h2 := pre_nonneg hz (r m)
        rw [sumF_succ]
        omega
      · obtain ⟨s, hs⟩ : ∃ s : Nat → Nat, s = fun e => if e < m then r e - 1 else r e - 2 := ⟨_, rfl⟩
        have hge : ∀ e, e < m + 1 → 2 ≤ r e := fun e he => by have := hanti e m (by omega) (by omega); omega
        have s1 : ∀ e, e < m → s e + 1 = r e := fun e he => by have := hge e (by omega); rw [hs]; simp [he]; omega
        have s2 : s m + 2 = r m := by have := hge m (by omega); rw [hs]; simp; omega
        have hws := wsum_less m s1
        have h1 := ihk (ins (a + b) rest) (by rw [ins_len, hlr]) (ins_up hu.2.2) (fun z hz' => by
            rcases ins_mem hz' with h | h
            · omega
            · exact hz z (by simp [h])) (m + 1) s
          (fun e he => by
            by_cases c2 : e < m
            · have := hr e he; have := s1 e c2; omega
            · have e0 : e = m := by omega
              rw [e0]; have := hr m (by omega); omega)
          (fun e f hef hf => by
            by_cases c2 : f < m
            · have := s1 f c2; have := s1 e (by omega); have := hanti e f hef (by omega); omega
            · have f0 : f = m := by omega
              rw [f0]
              by_cases c3 : e < m
              · have := s1 e c3; have := hanti e m (by omega) (by omega); omega
              · have e0 : e = m := by omega
                rw [e0]; exact Nat.le_refl _)
          (by
            simp only [wsum] at hw ⊢
            rw [Nat.pow_succ, ← Nat.mul_assoc, Nat.add_mul] at hw
            rw [Nat.pow_succ, ← Nat.mul_assoc]
            omega)
        have hlast : pre (s m) (ins (a + b) rest) + (a + b) ≤ pre (r m) (a :: b :: rest) := by
          have := pre_insB (a + b) hu.2.2 (q := s m) (by have := hr m (by omega); omega)
          rw [← s2]
          show _ ≤ a + (b + pre (s m) rest)
          omega
        have hthe : sumF (fun e => pre (s e) (ins (a + b) rest)) m ≤ sumF (fun e => pre (r e) (a :: b :: rest)) m := by
          refine sumF_le (fun e he => ?_)
          have h2 := hge e (by omega)
          have h3 := s1 e he
          obtain ⟨q, hq⟩ : ∃ q, r e = q + 2 := ⟨r e - 2, by omega⟩
          have h4 : s e = q + 1 := by omega
          rw [hq, h4]
          have := pre_insA (a + b) rest q
          show _ ≤ a + (b + pre q rest)
          omega
        rw [sumF_succ] at h1 ⊢
        show a + b + hc k (ins (a + b) rest) ≤ _
        omega

/-! ### the merges of the two queues -/
theorem bag_cons (f : Int → Int) (y : Int) (ys : List Int) : sumF (fun i => f ((y :: ys).getD i 0)) (ys.length + 1) = f y + sumF (fun i => f (ys.getD i 0)) ys.length := by
  have key : ∀ m, sumF (fun i => f ((y :: ys).getD i 0)) (m + 1) = f y + sumF (fun i => f (ys.getD i 0)) m := by
    intro m
    induction m with
    | zero => show 0 + f y = f y + 0; omega
    | succ m ih => rw [sumF_succ, ih, sumF_succ]; simp only [List.getD_cons_succ]; omega
  exact key _
theorem bag_ins (f : Int → Int) (x : Int) (ys : List Int) : sumF (fun i => f ((ins x ys).getD i 0)) (ys.length + 1) = f x + sumF (fun i => f (ys.getD i 0)) ys.length := by
  induction ys with
  | nil => exact bag_cons f x []
  | cons y ys ih =>
    simp only [ins]
    split
    · rw [List.length_cons]
      exact bag_cons f x (y :: ys)
    · have h1 := bag_cons f y (ins x ys)
      rw [ins_len] at h1
      have h2 := bag_cons f y ys
      rw [List.length_cons, h1, ih, h2]
      omega
theorem up_at {zs : List Int} (h : Up zs) : ∀ i j, i ≤ j → j < zs.length → zs.getD i 0 ≤ zs.getD j 0 := by
  induction zs with
  | nil => intro i j _ hj; simp at hj
  | cons y ys ih =>
    intro i j hij hj
    cases i with
    | zero =>
      cases j with
      | zero => exact Int.le_refl _
      | succ j =>
        simp only [List.getD_cons_zero, List.getD_cons_succ]
        have hj' : j < ys.length := by simp at hj; omega
        refine h.1 _ ?_
        rw [List.getD_eq_getElem?_getD, List.getElem?_eq_getElem hj']
        exact List.getElem_mem hj'
    | succ i =>
      cases j with
      | zero => omega
      | succ j =>
        simp only [List.getD_cons_succ]
        exact ih h.2 i j (by omega) (by simp at hj; omega)
end Go.Proofs.Qxb6604297a.Huff
