/-
  The plain law of the run-length code of lengths: a decoder, and what one more symbol does to it. No Go in sight.
-/
namespace Go.Proofs.Qxb6604297a.Dec

def step (r1 r2 r4 : Bool) : Option (List Int × Int) → Int × Int → Option (List Int × Int)
  | none, _ => none
  | some (out, prev), (c, e) =>
    if 0 ≤ c ∧ c ≤ 15 then (if e = 0 then some (out ++ [c], c) else none)
    else if c = 16 then (if r1 = true ∧ 0 ≤ e ∧ e ≤ 3 ∧ 0 ≤ prev then some (out ++ List.replicate (3 + e).toNat prev, prev) else none)
    else if c = 17 then (if r2 = true ∧ 0 ≤ e ∧ e ≤ 7 then some (out ++ List.replicate (3 + e).toNat 0, 0) else none)
    else if c = 18 then (if r4 = true ∧ 0 ≤ e ∧ e ≤ 127 then some (out ++ List.replicate (11 + e).toNat 0, 0) else none)
    else none

def all (r1 r2 r4 : Bool) (xs : List (Int × Int)) : Option (List Int × Int) := xs.foldl (step r1 r2 r4) (some ([], -1))

theorem all_snoc (r1 r2 r4 : Bool) (xs : List (Int × Int)) (s : Int × Int) : all r1 r2 r4 (xs ++ [s]) = step r1 r2 r4 (all r1 r2 r4 xs) s := by
  simp [all, List.foldl_append]

theorem take_rep (zs : List Int) (p r : Nat) (v : Int) (h : ∀ j, p ≤ j → j < p + r → zs.getD j 0 = v) (hl : p + r ≤ zs.length) :
    zs.take (p + r) = zs.take p ++ List.replicate r v := by
  induction r with
  | zero => simp
  | succ r ih =>
    have h1 := ih (fun j h1 h2 => h j h1 (by omega)) (by omega)
    have hlt : p + r < zs.length := by omega
    have e : zs.take (p + (r + 1)) = zs.take (p + r) ++ [zs[p + r]] := by
      rw [← Nat.add_assoc, List.take_succ_eq_append_getElem hlt]
    rw [e, h1]
    have hv := h (p + r) (by omega) (by omega)
    rw [List.getD_eq_getElem?_getD, List.getElem?_eq_getElem hlt, Option.getD_some] at hv
    rw [hv, List.append_assoc, List.replicate_succ']

/-- What the encoder has so far: it decodes to the first p lengths. -/
def Inv (zs : List Int) (r1 r2 r4 : Bool) (xs : List (Int × Int)) (p : Nat) (prev : Int) : Prop :=
  all r1 r2 r4 xs = some (zs.take p, prev) ∧ xs.length ≤ p ∧ p ≤ zs.length

theorem inv_nil (zs : List Int) (r1 r2 r4 : Bool) : Inv zs r1 r2 r4 [] 0 (-1) := by simp [Inv, all]

theorem inv_lit {zs : List Int} {r1 r2 r4 : Bool} {xs : List (Int × Int)} {p : Nat} {prev v : Int} (h : Inv zs r1 r2 r4 xs p prev) (hp : p < zs.length) (hv : zs.getD p 0 = v) (h0 : 0 ≤ v) (h15 : v ≤ 15) :
    Inv zs r1 r2 r4 (xs ++ [(v, 0)]) (p + 1) v := by
  obtain ⟨h1, h2, h3⟩ := h
  refine ⟨?_, by simp; omega, by omega⟩
  rw [all_snoc, h1, take_rep zs p 1 v (fun j a b => (show j = p by omega) ▸ hv) (by omega)]
  simp [step, h0, h15]

theorem inv_16 {zs : List Int} {r2 r4 : Bool} {xs : List (Int × Int)} {p r : Nat} {v : Int} (h : Inv zs true r2 r4 xs p v) (hp : p + r ≤ zs.length) (hv : ∀ j, p ≤ j → j < p + r → zs.getD j 0 = v) (h0 : 0 ≤ v) (h3 : 3 ≤ r) (h6 : r ≤ 6) :
    Inv zs true r2 r4 (xs ++ [(16, (r : Int) - 3)]) (p + r) v := by
  obtain ⟨h1, h2, h4⟩ := h
  refine ⟨?_, by simp; omega, by omega⟩
  rw [all_snoc, h1, take_rep zs p r v hv hp]
  have e : (3 + ((r : Int) - 3)).toNat = r := by omega
  have c1 : (3 : Int) ≤ r := by omega
  have c2 : (r : Int) - 3 ≤ 3 := by omega
  simp only [step, e]
  rw [if_neg (by omega), if_pos trivial, if_pos ⟨trivial, by omega, c2, h0⟩]

theorem inv_17 {zs : List Int} {r1 r4 : Bool} {xs : List (Int × Int)} {p r : Nat} {v : Int} (h : Inv zs r1 true r4 xs p v) (hp : p + r ≤ zs.length) (hv : ∀ j, p ≤ j → j < p + r → zs.getD j 0 = 0) (h3 : 3 ≤ r) (h10 : r ≤ 10) :
    Inv zs r1 true r4 (xs ++ [(17, (r : Int) - 3)]) (p + r) 0 := by
  obtain ⟨h1, h2, h4⟩ := h
  refine ⟨?_, by simp; omega, by omega⟩
  rw [all_snoc, h1, take_rep zs p r 0 hv hp]
  have e : (3 + ((r : Int) - 3)).toNat = r := by omega
  simp only [step, e]
  rw [if_neg (by omega), if_neg (by omega), if_pos trivial, if_pos ⟨trivial, by omega, by omega⟩]

theorem inv_18 {zs : List Int} {r1 r2 : Bool} {xs : List (Int × Int)} {p r : Nat} {v : Int} (h : Inv zs r1 r2 true xs p v) (hp : p + r ≤ zs.length) (hv : ∀ j, p ≤ j → j < p + r → zs.getD j 0 = 0) (h3 : 11 ≤ r) (h10 : r ≤ 138) :
    Inv zs r1 r2 true (xs ++ [(18, (r : Int) - 11)]) (p + r) 0 := by
  obtain ⟨h1, h2, h4⟩ := h
  refine ⟨?_, by simp; omega, by omega⟩
  rw [all_snoc, h1, take_rep zs p r 0 hv hp]
  have e : (11 + ((r : Int) - 11)).toNat = r := by omega
  simp only [step, e]
  rw [if_neg (by omega), if_neg (by omega), if_neg (by omega), if_pos trivial, if_pos ⟨trivial, by omega, by omega⟩]

theorem foldl_none (r1 r2 r4 : Bool) (xs : List (Int × Int)) : xs.foldl (step r1 r2 r4) none = none := by
  induction xs with
  | nil => rfl
  | cons s xs ih => simpa [step] using ih

/-- One symbol read: so many of one value. -/
def Reads1 (r1 r2 r4 : Bool) (prev c e : Int) (lit : Bool) (cnt : Nat) (val : Int) : Prop :=
  (lit = true ∧ 0 ≤ c ∧ c ≤ 15 ∧ e = 0 ∧ cnt = 1 ∧ val = c) ∨
  (lit = false ∧ c = 16 ∧ r1 = true ∧ 0 ≤ e ∧ e ≤ 3 ∧ 0 ≤ prev ∧ (cnt : Int) = 3 + e ∧ val = prev) ∨
  (lit = false ∧ c = 17 ∧ r2 = true ∧ 0 ≤ e ∧ e ≤ 7 ∧ (cnt : Int) = 3 + e ∧ val = 0) ∨
  (lit = false ∧ c = 18 ∧ r4 = true ∧ 0 ≤ e ∧ e ≤ 127 ∧ (cnt : Int) = 11 + e ∧ val = 0)

theorem step_some {r1 r2 r4 : Bool} {out : List Int} {prev c e : Int} {r : List Int × Int} (h : step r1 r2 r4 (some (out, prev)) (c, e) = some r) :
    ∃ lit cnt val, Reads1 r1 r2 r4 prev c e lit cnt val ∧ r = (out ++ List.replicate cnt val, val) := by
  simp only [step] at h
  by_cases h1 : 0 ≤ c ∧ c ≤ 15
  · rw [if_pos h1] at h
    by_cases h2 : e = 0
    · rw [if_pos h2] at h
      exact ⟨true, 1, c, .inl ⟨rfl, h1.1, h1.2, h2, rfl, rfl⟩, (Option.some.inj h).symm⟩
    · rw [if_neg h2] at h; cases h
  · rw [if_neg h1] at h
    by_cases h3 : c = 16
    · rw [if_pos h3] at h
      by_cases h2 : r1 = true ∧ 0 ≤ e ∧ e ≤ 3 ∧ 0 ≤ prev
      · rw [if_pos h2] at h
        exact ⟨false, (3 + e).toNat, prev, .inr (.inl ⟨rfl, h3, h2.1, h2.2.1, h2.2.2.1, h2.2.2.2, by omega, rfl⟩), (Option.some.inj h).symm⟩
      · rw [if_neg h2] at h; cases h
    · rw [if_neg h3] at h
      by_cases h4 : c = 17
      · rw [if_pos h4] at h
        by_cases h2 : r2 = true ∧ 0 ≤ e ∧ e ≤ 7
        · rw [if_pos h2] at h
          exact ⟨false, (3 + e).toNat, 0, .inr (.inr (.inl ⟨rfl, h4, h2.1, h2.2.1, h2.2.2, by omega, rfl⟩)), (Option.some.inj h).symm⟩
        · rw [if_neg h2] at h; cases h
      · rw [if_neg h4] at h
        by_cases h5 : c = 18
        · rw [if_pos h5] at h
          by_cases h2 : r4 = true ∧ 0 ≤ e ∧ e ≤ 127
          · rw [if_pos h2] at h
            exact ⟨false, (11 + e).toNat, 0, .inr (.inr (.inr ⟨rfl, h5, h2.1, h2.2.1, h2.2.2, by omega, rfl⟩)), (Option.some.inj h).symm⟩
          · rw [if_neg h2] at h; cases h
        · rw [if_neg h5] at h; cases h

theorem foldl_prefix (r1 r2 r4 : Bool) (xs : List (Int × Int)) (out : List Int) (prev : Int) (zs : List Int) (pv : Int) (h : xs.foldl (step r1 r2 r4) (some (out, prev)) = some (zs, pv)) : ∃ t, zs = out ++ t := by
  induction xs generalizing out prev with
  | nil => exact ⟨[], by simp only [List.foldl_nil, Option.some.injEq, Prod.mk.injEq] at h; simp [h.1]⟩
  | cons s xs ih =>
    rw [List.foldl_cons] at h
    obtain ⟨c, e⟩ := s
    cases hs : step r1 r2 r4 (some (out, prev)) (c, e) with
    | none => rw [hs, foldl_none] at h; cases h
    | some r =>
      obtain ⟨lit, cnt, val, _, rfl⟩ := step_some hs
      rw [hs] at h
      obtain ⟨t, ht⟩ := ih _ _ h
      exact ⟨List.replicate cnt val ++ t, by rw [ht, List.append_assoc]⟩

/-- The k-th symbol of a text that decodes: what it is, and what is read so far. -/
theorem at_k {r1 r2 r4 : Bool} {xs : List (Int × Int)} {zs : List Int} {pv : Int} (h : all r1 r2 r4 xs = some (zs, pv)) (k : Nat) (hk : k < xs.length) {out : List Int} {prev : Int} (hp : all r1 r2 r4 (xs.take k) = some (out, prev)) :
    ∃ lit cnt val, Reads1 r1 r2 r4 prev (xs.getD k (0, 0)).1 (xs.getD k (0, 0)).2 lit cnt val ∧ all r1 r2 r4 (xs.take (k + 1)) = some (out ++ List.replicate cnt val, val) ∧ out.length + cnt ≤ zs.length := by
  have ex : xs = xs.take k ++ ((xs.getD k (0, 0)).1, (xs.getD k (0, 0)).2) :: xs.drop (k + 1) := by
    have h1 : xs.getD k (0, 0) = xs[k] := by rw [List.getD_eq_getElem?_getD, List.getElem?_eq_getElem hk, Option.getD_some]
    rw [h1]
    rw [List.getElem_cons_drop hk, List.take_append_drop]
  have e2 : xs.take (k + 1) = xs.take k ++ [((xs.getD k (0, 0)).1, (xs.getD k (0, 0)).2)] := by
    have h1 : xs.getD k (0, 0) = xs[k] := by rw [List.getD_eq_getElem?_getD, List.getElem?_eq_getElem hk, Option.getD_some]
    rw [h1, List.take_succ_eq_append_getElem hk]
  have h3 : (((xs.getD k (0, 0)).1, (xs.getD k (0, 0)).2) :: xs.drop (k + 1)).foldl (step r1 r2 r4) (some (out, prev)) = some (zs, pv) := by
    rw [← h]
    conv => rhs; rw [ex]
    rw [all, List.foldl_append]
    rw [all] at hp
    rw [hp]
  rw [List.foldl_cons] at h3
  cases hs : step r1 r2 r4 (some (out, prev)) ((xs.getD k (0, 0)).1, (xs.getD k (0, 0)).2) with
  | none => rw [hs, foldl_none] at h3; cases h3
  | some r =>
    obtain ⟨lit, cnt, val, h4, rfl⟩ := step_some hs
    rw [hs] at h3
    obtain ⟨t, ht⟩ := foldl_prefix r1 r2 r4 _ _ _ _ _ h3
    refine ⟨lit, cnt, val, h4, ?_, ?_⟩
    · rw [e2, all_snoc, hp, hs]
    · rw [ht]; simp
end Go.Proofs.Qxb6604297a.Dec
