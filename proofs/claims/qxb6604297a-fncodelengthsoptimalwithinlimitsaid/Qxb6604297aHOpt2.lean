/-
  The two queues merge as the sorted list does: Huffman's code costs the least.
-/
import Derived.Test.Qxb6604297aHOpt
set_option linter.unusedVariables false
namespace Go.Proofs.Qxb6604297a.Huff

/-- The k-th merge's weight. -/
def mgW (n : Nat) (s0 : HS) (k : Nat) : Int := (hrun n s0 (n - 1)).W.getD (n + k) 0
theorem pool_start {C : Nat → Int} {n : Nat} {s0 : HS} {ws : List Int} (h : HStart C n s0) (hC : ∀ i j, i ≤ j → j < n → C i ≤ C j) (hn : 2 ≤ n) (hw : ∀ i, i < n → C i = ws.getD i 0) :
    SamePool ws (hrun n s0 (n - 1)).W (n - 0) n (n + 0) (hrun n s0 0).leaf (hrun n s0 0).tree := by
  have T := h.done hC hn
  intro f
  show _ = sumF _ n - sumF _ s0.leaf + (sumF _ n - sumF _ s0.tree)
  rw [h.leaf, h.tree, Nat.sub_zero]
  have e : sumF (fun i => f (ws.getD i 0)) n = sumF (fun i => f ((hrun n s0 (n - 1)).W.getD i 0)) n := sumF_congr n (fun i hi => by rw [T.lw i hi, hw i hi])
  rw [e]
  have : sumF (fun i => f ((hrun n s0 (n - 1)).W.getD i 0)) 0 = 0 := rfl
  omega
theorem stage {C : Nat → Int} {n : Nat} {s0 : HS} (h : HStart C n s0) (hC : ∀ i j, i ≤ j → j < n → C i ≤ C j) (hn : 2 ≤ n) {k : Nat} (hk : k < n - 1) {X : List Int}
    (hS : SamePool X (hrun n s0 (n - 1)).W (n - k) n (n + k) (hrun n s0 k).leaf (hrun n s0 k).tree) (hl : n - k ≤ X.length) :
    ∃ a b, Round X (hrun n s0 (n - 1)).W n (n + k) (hrun n s0 k).leaf (hrun n s0 k).tree (hrun n s0 (k + 1)).leaf (hrun n s0 (k + 1)).tree a b (n - k) ∧
      mgW n s0 k = (hrun n s0 (n - 1)).W.getD a 0 + (hrun n s0 (n - 1)).W.getD b 0 := by
  have h0 : s0.leaf + s0.tree = n := by rw [h.leaf, h.tree]; omega
  have M := run_merge h.inv hC h0 (by omega) k hk
  have hI := (run_inv h.inv hC h0 (by omega) k (by omega)).1
  obtain ⟨a, ea⟩ : ∃ a, (pickA n (n + k) (hrun n s0 k)).1 = a := ⟨_, rfl⟩
  obtain ⟨b, eb⟩ : ∃ b, (pickB n (n + k) (hrun n s0 k)).1 = b := ⟨_, rfl⟩
  rw [ea, eb] at M
  have ek : k + (n - 1 - k) = n - 1 := by omega
  have hW : ∀ y, y < n + k → (hrun n s0 (n - 1)).W.getD y 0 = (hrun n s0 k).W.getD y 0 := by
    intro y hy
    have := keepW h.inv hC h0 (by omega) k y hy (n - 1 - k) (by omega)
    rw [ek] at this
    exact this
  have ek1 : k + 1 + (n - 1 - (k + 1)) = n - 1 := by omega
  have hWm : (hrun n s0 (n - 1)).W.getD (n + k) 0 = (hrun n s0 (n - 1)).W.getD a 0 + (hrun n s0 (n - 1)).W.getD b 0 := by
    have := keepW h.inv hC h0 (by omega) (k + 1) (n + k) (by omega) (n - 1 - (k + 1)) (by omega)
    rw [ek1] at this
    rw [this, hW a M.am, hW b M.bm, M.wm]
  exact ⟨a, b, round M hI (by omega) hW hWm hS (by omega) hl, hWm⟩

theorem hc_merge {C : Nat → Int} {n : Nat} {s0 : HS} (h : HStart C n s0) (hC : ∀ i j, i ≤ j → j < n → C i ≤ C j) (hn : 2 ≤ n) (j : Nat) : ∀ (k : Nat) (zs : List Int), k + j = n - 1 → zs.length = j + 1 → Up zs →
    SamePool zs (hrun n s0 (n - 1)).W (n - k) n (n + k) (hrun n s0 k).leaf (hrun n s0 k).tree → sumF (mgW n s0) (n - 1) = sumF (mgW n s0) k + hc j zs := by
  induction j with
  | zero =>
    intro k zs hkj _ _ _
    have e : k = n - 1 := by omega
    rw [e]
    show _ = _ + 0
    omega
  | succ j ih =>
    intro k zs hkj hl hu hS
    obtain ⟨a0, b0, rest, rfl⟩ : ∃ a b rest, zs = a :: b :: rest := by
      match zs, hl with
      | a :: b :: rest, _ => exact ⟨a, b, rest, rfl⟩
    have hlr : rest.length = j := by simp at hl; omega
    obtain ⟨a, b, R, hm⟩ := stage h hC hn (by omega) hS (by rw [hl]; omega)
    have hcnt : n - k = j + 2 := by omega
    rw [hcnt] at R hS
    have hup := up_at hu
    have f0 := R.first 0 (by omega) (fun i hi => hup 0 i (Nat.zero_le _) (by rw [hl]; omega))
    have e0 : (a0 :: b0 :: rest).getD 0 0 = a0 := rfl
    obtain ⟨X1, hX1⟩ : ∃ X1, X1 = (a0 :: b0 :: rest).set 0 ((a0 :: b0 :: rest).getD (j + 2 - 1) 0) := ⟨_, rfl⟩
    have hX1l : X1.length = j + 2 := by rw [hX1, List.length_set, hl]
    have hX1at : ∀ i, X1.getD i 0 = if i = 0 then (a0 :: b0 :: rest).getD (j + 1) 0 else (a0 :: b0 :: rest).getD i 0 := by
      intro i
      rw [hX1]
      exact getD_set _ 0 i _ (by rw [hl]; omega)
    have eb : (a0 :: b0 :: rest).getD 1 0 = b0 := rfl
    obtain ⟨j', hj'1, hj'2⟩ : ∃ j', j' < j + 1 ∧ X1.getD j' 0 = b0 := by
      by_cases c : j = 0
      · refine ⟨0, by omega, ?_⟩
        rw [hX1at, if_pos rfl, c]
        rfl
      · refine ⟨1, by omega, ?_⟩
        rw [hX1at, if_neg (by omega)]
        rfl
    have hmin2 : ∀ i, i < j + 2 - 1 → X1.getD j' 0 ≤ X1.getD i 0 := by
      intro i hi
      rw [hj'2, hX1at i]
      by_cases c : i = 0
      · rw [if_pos c, ← eb]
        exact hup 1 (j + 1) (by omega) (by rw [hl]; omega)
      · rw [if_neg c, ← eb]
        exact hup 1 i (by omega) (by rw [hl]; omega)
    have f1 := R.second 0 (by omega) (fun i hi => hup 0 i (Nat.zero_le _) (by rw [hl]; omega)) j' (by omega) (by rw [← hX1]; exact hmin2)
    have f2 := R.third 0 (by omega) (fun i hi => hup 0 i (Nat.zero_le _) (by rw [hl]; omega)) j' (by omega) (by rw [← hX1]; exact hmin2)
    rw [← hX1] at f1 f2
    rw [e0] at f0
    rw [hj'2] at f1
    rw [← f0, ← f1] at hm f2
    have hS' : SamePool (ins (a0 + b0) rest) (hrun n s0 (n - 1)).W (n - (k + 1)) n (n + (k + 1)) (hrun n s0 (k + 1)).leaf (hrun n s0 (k + 1)).tree := by
      intro f
      have g := f2 f
      rw [show n - (k + 1) = rest.length + 1 by omega, bag_ins]
      rw [show n + (k + 1) = n + k + 1 by omega, ← g]
      have p1 := putM (X := X1.set j' (X1.getD (j + 2 - 1 - 1) 0)) (p := j) (v := a0 + b0) (by rw [List.length_set]; omega) f
      have p2 := takeM (X := X1) (cnt := j + 1) (j := j') hj'1 (by omega) f
      have p3 := takeM (X := a0 :: b0 :: rest) (cnt := j + 2) (j := 0) (by omega) (by rw [hl]; omega) f
      rw [show j + 2 - 1 = j + 1 by omega] at p3
      rw [show j + 2 - 1 = j + 1 by omega] at hX1
      rw [← hX1, e0] at p3
      rw [show j + 2 - 1 - 1 = j by omega] at p1
      rw [show j + 1 - 1 = j by omega, hj'2] at p2
      have b1 := bag_cons f a0 (b0 :: rest)
      have b2 := bag_cons f b0 rest
      rw [List.length_cons, b2] at b1
      rw [show j + 2 - 1 - 1 = j by omega, show j + 2 - 2 = j by omega, show j + 2 - 1 = j + 1 by omega, p1, p2, p3, show j + 2 = rest.length + 1 + 1 by omega, b1]
      omega
    have h1 := ih (k + 1) (ins (a0 + b0) rest) (by omega) (by rw [ins_len, hlr]) (ins_up hu.2.2) hS'
    rw [h1, sumF_succ, hm]
    show _ = _ + (a0 + b0 + hc j (ins (a0 + b0) rest))
    omega

theorem up_of {zs : List Int} (h : ∀ i j, i ≤ j → j < zs.length → zs.getD i 0 ≤ zs.getD j 0) : Up zs := by
  induction zs with
  | nil => trivial
  | cons y ys ih =>
    refine ⟨fun z hz => ?_, ih (fun i j hij hj => ?_)⟩
    · obtain ⟨i, hi, rfl⟩ := List.getElem_of_mem hz
      have := h 0 (i + 1) (by omega) (by simp; omega)
      rw [List.getD_cons_zero, List.getD_cons_succ, List.getD_eq_getElem?_getD, List.getElem?_eq_getElem hi, Option.getD_some] at this
      exact this
    · have := h (i + 1) (j + 1) (by omega) (by simp; omega)
      simpa only [List.getD_cons_succ] using this
theorem pre_sum (zs : List Int) : ∀ q, pre q zs = sumF (fun i => zs.getD i 0) q := by
  induction zs with
  | nil => intro q; rw [pre_nil]; induction q with
    | zero => rfl
    | succ q ih => rw [sumF_succ, ← ih]; rfl
  | cons y ys ih =>
    intro q
    cases q with
    | zero => rfl
    | succ q =>
      show y + pre q ys = _
      rw [ih q]
      have key : ∀ m, sumF (fun i => (y :: ys).getD i 0) (m + 1) = y + sumF (fun i => ys.getD i 0) m := by
        intro m
        induction m with
        | zero => show 0 + y = y + 0; omega
        | succ m ih => rw [sumF_succ, ih, sumF_succ]; simp only [List.getD_cons_succ]; omega
      rw [key]

/-- HUFFMAN'S CODE IS THE LEAST. -/
theorem least {C : Nat → Int} {n : Nat} {s0 : HS} {D : List Int} (h : HStart C n s0) (hp : ∀ i, i < n → 1 ≤ C i) (hC : ∀ i j, i ≤ j → j < n → C i ≤ C j) (hn : 2 ≤ n) (hdep : Dep n (hrun n s0 (n - 1)).P D 0) (L : Nat) :
    Least n L C (sumF (fun i => C i * D.getD i 0) n) := by
  intro m r _ hr hanti hw
  obtain ⟨zs, hzs⟩ : ∃ zs, zs = (List.range n).map C := ⟨_, rfl⟩
  have hl : zs.length = n := by rw [hzs]; simp
  have hat : ∀ i, i < n → C i = zs.getD i 0 := fun i hi => by rw [hzs]; simp [List.getD_eq_getElem?_getD, hi]
  have hu : Up zs := up_of (fun i j hij hj => by rw [hl] at hj; rw [← hat i (by omega), ← hat j hj]; exact hC i j hij hj)
  have hz : ∀ z ∈ zs, 0 ≤ z := by
    intro z hz
    rw [hzs, List.mem_map] at hz
    obtain ⟨i, hi, rfl⟩ := hz
    have := hp i (by simpa using hi)
    omega
  have hS := pool_start h hC hn hat
  have h1 := hc_merge h hC hn (n - 1) 0 zs (by omega) (by omega) hu hS
  have h2 := hc_least (n - 1) zs (by omega) hu hz m r (fun e he => by have := hr e he; omega) hanti hw
  have h3 := cost (h.done hC hn) hdep
  have e1 : sumF (fun k => (hrun n s0 (n - 1)).W.getD (n + k) 0) (n - 1) = sumF (mgW n s0) (n - 1) := rfl
  have e2 : sumF (mgW n s0) 0 = 0 := rfl
  have e3 : sumF (fun e => pre (r e) zs) m = wcost C r m := by
    refine sumF_congr m (fun e he => ?_)
    rw [pre_sum]
    refine sumF_congr (r e) (fun i hi => (hat i ?_).symm)
    have := hr e he
    omega
  rw [h3, e1, h1, ← e3]
  omega
end Go.Proofs.Qxb6604297a.Huff
