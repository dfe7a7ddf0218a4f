/-
  zzMergeCost (21).
-/
import Derived.Test.Qxb6604297aMerge
import Derived.Test.Qxb6604297aPool
import Derived.Test.Qxb6604297aHuffDom
set_option linter.unusedVariables false
namespace Go.Proofs.Qxb6604297a
open Go.ChangeShapes Go.WideShapes Go.ChangeAt Go.RowKit

/-- The weights that the merges make. -/
def mergeW (n : Nat) (s0 : Huff.HS) (k : Nat) : Int := (Huff.hrun n s0 (n - 1)).W.getD (n + k) 0

theorem mergeW_le {n : Nat} {C : Nat → Int} {s0 : Huff.HS} (h : HStart C n s0) (hC : ∀ i j, i ≤ j → j < n → C i ≤ C j) (hs : Huff.sumF C n ≤ 1125899906842624) (hn : 2 ≤ n) {k : Nat} (hk : k < n - 1) : 2 ≤ mergeW n s0 k ∧ mergeW n s0 k ≤ 1125899906842624 := by
  have T := h.done hC hn
  have h2 := Huff.root_weight T
  unfold mergeW
  refine ⟨?_, ?_⟩
  · obtain ⟨a, b, _, ha, hb, _, _, hw⟩ := T.kids (n + k) (by omega) (by omega)
    have := T.pos a (by omega)
    have := T.pos b (by omega)
    omega
  · by_cases e : n + k = 2 * n - 2
    · rw [e, h2]; exact hs
    · have := T.top (n + k) (by omega)
      omega

/-- The pool behind k merges. -/
structure PoolAt (n : Nat) (s0 : Huff.HS) (X : List Int) (k : Nat) (cost : Int) : Prop where
  len : X.length = n
  same : Huff.SamePool X (Huff.hrun n s0 (n - 1)).W (n - k) n (n + k) (Huff.hrun n s0 k).leaf (Huff.hrun n s0 k).tree
  sum : cost = Huff.sumF (mergeW n s0) k
  nn : 0 ≤ cost
  le : cost ≤ (k : Int) * 1125899906842624

theorem PoolAt.start {C : Nat → Int} {n : Nat} {s0 : Huff.HS} {ws : List Int} (h : HStart C n s0) (hC : ∀ i j, i ≤ j → j < n → C i ≤ C j) (hn : 2 ≤ n) (hl : ws.length = n) (hw : ∀ i, i < n → C i = ws.getD i 0) : PoolAt n s0 ws 0 0 := by
  have T := h.done hC hn
  refine ⟨hl, ?_, rfl, by omega, by omega⟩
  intro f
  show _ = Huff.sumF _ n - Huff.sumF _ s0.leaf + (Huff.sumF _ n - Huff.sumF _ s0.tree)
  rw [h.leaf, h.tree, Nat.sub_zero]
  have e : Huff.sumF (fun i => f (ws.getD i 0)) n = Huff.sumF (fun i => f ((Huff.hrun n s0 (n - 1)).W.getD i 0)) n := Huff.sumF_congr n (fun i hi => by rw [T.lw i hi, hw i hi])
  rw [e]
  have : Huff.sumF (fun i => f ((Huff.hrun n s0 (n - 1)).W.getD i 0)) 0 = 0 := rfl
  omega

theorem PoolAt.round {C : Nat → Int} {n : Nat} {s0 : Huff.HS} {X : List Int} {k : Nat} {cost : Int} (h : HStart C n s0) (hC : ∀ i j, i ≤ j → j < n → C i ≤ C j) (hs : Huff.sumF C n ≤ 1125899906842624) (hn : 2 ≤ n) (hp : PoolAt n s0 X k cost) (hk : k < n - 1) {j j' : Nat}
    (hj : j < n - k) (hmin : ∀ i, i < n - k → X.getD j 0 ≤ X.getD i 0) (hj' : j' < n - k - 1)
    (hmin' : ∀ i, i < n - k - 1 → (X.set j (X.getD (n - k - 1) 0)).getD j' 0 ≤ (X.set j (X.getD (n - k - 1) 0)).getD i 0) :
    X.getD j 0 + (X.set j (X.getD (n - k - 1) 0)).getD j' 0 = mergeW n s0 k ∧ 1 ≤ X.getD j 0 ∧ 1 ≤ (X.set j (X.getD (n - k - 1) 0)).getD j' 0 ∧
    PoolAt n s0 (((X.set j (X.getD (n - k - 1) 0)).set j' ((X.set j (X.getD (n - k - 1) 0)).getD (n - k - 1 - 1) 0)).set (n - k - 2) (X.getD j 0 + (X.set j (X.getD (n - k - 1) 0)).getD j' 0)) (k + 1) (cost + (X.getD j 0 + (X.set j (X.getD (n - k - 1) 0)).getD j' 0)) := by
  have h0 : s0.leaf + s0.tree = n := by rw [h.leaf, h.tree]; omega
  have M := Huff.run_merge h.inv hC h0 (by omega) k hk
  have hI := (Huff.run_inv h.inv hC h0 (by omega) k (by omega)).1
  have T := h.done hC hn
  obtain ⟨a, ea⟩ : ∃ a, (Huff.pickA n (n + k) (Huff.hrun n s0 k)).1 = a := ⟨_, rfl⟩
  obtain ⟨b, eb⟩ : ∃ b, (Huff.pickB n (n + k) (Huff.hrun n s0 k)).1 = b := ⟨_, rfl⟩
  rw [ea, eb] at M
  have ek : k + (n - 1 - k) = n - 1 := by omega
  have hW : ∀ y, y < n + k → (Huff.hrun n s0 (n - 1)).W.getD y 0 = (Huff.hrun n s0 k).W.getD y 0 := by
    intro y hy
    have := Huff.keepW h.inv hC h0 (by omega) k y hy (n - 1 - k) (by omega)
    rw [ek] at this
    exact this
  have ek1 : k + 1 + (n - 1 - (k + 1)) = n - 1 := by omega
  have hWm : (Huff.hrun n s0 (n - 1)).W.getD (n + k) 0 = (Huff.hrun n s0 (n - 1)).W.getD a 0 + (Huff.hrun n s0 (n - 1)).W.getD b 0 := by
    have := Huff.keepW h.inv hC h0 (by omega) (k + 1) (n + k) (by omega) (n - 1 - (k + 1)) (by omega)
    rw [ek1] at this
    rw [this, hW a M.am, hW b M.bm, M.wm]
  have R := Huff.round M hI (by omega) hW hWm hp.same (by omega) (by rw [hp.len]; omega)
  have e1 := R.first j hj hmin
  have e2 := R.second j hj hmin j' hj' hmin'
  have e3 := R.third j hj hmin j' hj' hmin'
  have hsum : X.getD j 0 + (X.set j (X.getD (n - k - 1) 0)).getD j' 0 = mergeW n s0 k := by rw [e1, e2]; exact hWm.symm
  have hle := mergeW_le h hC hs hn hk
  have pa := T.pos a (by have := M.am; omega)
  have pb := T.pos b (by have := M.bm; omega)
  refine ⟨hsum, by rw [e1]; exact pa, by rw [e2]; exact pb, ?_⟩
  refine ⟨by rw [List.length_set, List.length_set, List.length_set]; exact hp.len, ?_, ?_, ?_, ?_⟩
  · rw [e1, e2]
    have e4 : n - (k + 1) = n - k - 1 := by omega
    rw [e4]
    exact e3
  · rw [Huff.sumF_succ, ← hp.sum, hsum]
  · rw [hsum]; have := hp.nn; omega
  · rw [hsum]; have := hp.le; rw [show ((k + 1 : Nat) : Int) = (k : Int) + 1 by omega, Int.add_mul]; omega

theorem pool_round {C : Nat → Int} {n : Nat} {s0 : Huff.HS} {X X1 : List Int} {k cnt c1 c2 m1 m2 : Nat} {cost va : Int} (h : HStart C n s0) (hC : ∀ i j, i ≤ j → j < n → C i ≤ C j) (hs : Huff.sumF C n ≤ 1125899906842624) (hn : 2 ≤ n) (hp : PoolAt n s0 X k cost)
    (hK : cnt = n - k ∧ k ≤ n - 1) (hc : c1 = cnt - 1 ∧ c2 = cnt - 2) (hgt : 1 < cnt) (hX1 : X.set m1 (X.getD (cnt - 1) 0) = X1 ∧ X.getD m1 0 = va) (hM1 : m1 < cnt ∧ ∀ i, i < cnt → va ≤ X.getD i 0) (hm2 : m2 < c1) (hmin2 : ∀ i, i < c1 → X1.getD m2 0 ≤ X1.getD i 0) :
    va + X1.getD m2 0 = mergeW n s0 k ∧ 1 ≤ va ∧ 1 ≤ X1.getD m2 0 ∧ PoolAt n s0 ((X1.set m2 (X1.getD (c1 - 1) 0)).set c2 (va + X1.getD m2 0)) (k + 1) (cost + (va + X1.getD m2 0)) := by
  obtain ⟨rfl, hk⟩ := hK
  obtain ⟨rfl, rfl⟩ := hc
  obtain ⟨rfl, rfl⟩ := hX1
  exact hp.round h hC hs hn (by omega) hM1.1 hM1.2 hm2 hmin2

set_option maxRecDepth 100000 in
set_option maxHeartbeats 4000000 in
theorem mergeCost_any (ws : List Int) (a : Option Addr) (c : Nat) (s0 : Huff.HS) (C : Nat → Int) (w : World) (hR : Reads w .i64 a ws) (h2 : 2 ≤ ws.length) (hsz : ws.length ≤ 4096) (hst : Hid (HStart C ws.length s0)) (hC : Hid (∀ i j, i ≤ j → j < ws.length → C i ≤ C j))
    (hs : Hid (Huff.sumF C ws.length ≤ 1125899906842624)) (hw : Hid (∀ i, i < ws.length → C i = ws.getD i 0)) :
    Calls Try.prog 21 #[.slice a ws.length c] w fun e w' => e = .returned (.int .i64 (Huff.sumF (mergeW ws.length s0) (ws.length - 1))) ∧ Below w.heap.size w w' := by
  have hmk := fun (w : World) => make_ints 29 2 .i64 8 Try.underlying29 Try.info2 (by decide) ws.length ws.length (Nat.le_refl _) (by omega) w
  obtain ⟨b, off, rfl⟩ := hR.addr (by omega)
  go_enter Try.func21, Try.ntmps21
  go_upto_block 0 with fail
  go_cut [14] (fun _ wx => Row wx w.heap.size 2 .i64 ws ∧ Below w.heap.size w wx)
  case first =>
    go_wp2
    go_loopg [14] ws.length (fun k t wx => ∃ (j : Nat) (X : List Int), ws.length - j ≤ k ∧ t = .int .i64 j ∧ j ≤ ws.length ∧ X.length = ws.length ∧ (∀ i, i < j → X.getD i 0 = ws.getD i 0) ∧ Row wx w.heap.size 2 .i64 X ∧ Below w.heap.size w wx)
    case atStart => exact ⟨0, _, by omega, rfl, by omega, by simp, fun i hi => by omega, zrow_row w .i64 2 ws.length, (Below.refl _ _).alloc (Nat.le_refl _) _⟩
    case round =>
      obtain ⟨j, X, hk, rfl, hj, hXl, hX, hrow, hb⟩ := hrel
      have HX : Hid (X.length = ws.length ∧ (∀ i, i < j → X.getD i 0 = ws.getD i 0)) := ⟨hXl, hX⟩
      by_cases hlt : j < ws.length
      · obtain ⟨v, hv⟩ : ∃ v, v = ws.getD j 0 := ⟨_, rfl⟩
        have q1 : wr.cell? ⟨b, off + j, none⟩ = some (.int .i64 v) := by rw [hb.cell (by exact (hR.at hlt).1), (hR.at hlt).2, hv]
        have q2 := hrow.cell (show j < X.length by omega)
        have q3 := hrow.frozen j
        have HV : Hid (v = ws.getD j 0) := hv
        clear hv hX hXl
        go_wp2
        go_roundg (ws.length - (j + 1))
        case measure => omega
        case rel =>
          refine ⟨j + 1, X.set j v, Nat.le_refl _, by go_num, by omega, by rw [List.length_set]; exact HX.out.1, ?_, hrow.set j v, hb.setCell (Nat.le_refl _) _⟩
          intro i hi
          rw [Huff.getD_set _ _ _ _ (by rw [HX.out.1]; exact hlt)]
          by_cases e : i = j
          · rw [if_pos e, e]; exact HV.out
          · rw [if_neg e]; exact HX.out.2 i (by omega)
      · clear hX hXl
        have e : X = ws := list_ext HX.out.1 (fun i hi => HX.out.2 i (by have := HX.out.1; omega))
        subst e
        go_wp2
        go_meet
        case rel => exact ⟨hrow, hb⟩
  case rest =>
    obtain ⟨hrow0, hb0⟩ := hcut
    clear hmk
    go_wp2
    go_loopg [5, 6] ws.length (fun g tn tc wx => ∃ (k cnt : Nat) (X : List Int) (cost : Int), cnt ≤ g ∧ 1 ≤ cnt ∧ cnt ≤ ws.length ∧ tn = .int .i64 cnt ∧ tc = .int .i64 cost ∧ Hid (cnt = ws.length - k ∧ k ≤ ws.length - 1) ∧ 0 ≤ cost ∧ cost ≤ 4095 * 1125899906842624 ∧ Hid (PoolAt ws.length s0 X k cost) ∧ Row wx w.heap.size 2 .i64 X ∧ Below w.heap.size w wx)
    case atStart => exact ⟨0, ws.length, ws, 0, by omega, by omega, by omega, rfl, rfl, ⟨by omega, by omega⟩, by omega, by omega, PoolAt.start hst.out hC.out h2 rfl hw.out, hrow0, hb0⟩
    case round =>
      obtain ⟨k, cnt, X, cost, hg, hc1, hc2, rfl, rfl, HK, hcost0, hcost1, HP, hrow, hb⟩ := hrel
      by_cases hgt : 1 < cnt
      · obtain ⟨c1, hc1e⟩ : ∃ c1, c1 = cnt - 1 := ⟨_, rfl⟩
        obtain ⟨c2, hc2e⟩ : ∃ c2, c2 = cnt - 2 := ⟨_, rfl⟩
        have r1 : (cnt : Int) - 1 = (c1 : Int) := by omega
        have r2 : (c1 : Int) - 1 = (c2 : Int) := by omega
        have r3 : (c2 : Int) + 1 = (c1 : Int) := by omega
        have HC1 : Hid (c1 = cnt - 1 ∧ c2 = cnt - 2) := ⟨hc1e, hc2e⟩
        have hl := HP.out.len
        have HXL : Hid (X.length = ws.length) := hl
        have b1 : 1 ≤ c1 := by omega
        have b2 : c1 ≤ ws.length := by omega
        have b3 : c2 < ws.length := by omega
        have b3' : (c2 : Int) < (ws.length : Int) := by omega
        clear hc1e hc2e hl hrow0 hb0
        go_wp2_with fail
        refine (take_any w.heap.size ws.length cnt ws.length X wr hrow HXL.out hc1 hc2 (by omega)).mono ?_
        rintro e w1 ⟨m1, hm1, hmin1, rfl, hrow1, hk1⟩
        have hb1 : Below w.heap.size w w1 := hb.trans (hk1.below (fun k hk e => by omega) hb.size)
        generalize hX1 : X.set m1 (X.getD (cnt - 1) 0) = X1 at *
        generalize hva : X.getD m1 0 = va at *
        have HX1 : Hid (X.set m1 (X.getD (cnt - 1) 0) = X1 ∧ X.getD m1 0 = va) := ⟨hX1, hva⟩
        have HM1 : Hid (m1 < cnt ∧ (∀ i, i < cnt → va ≤ X.getD i 0)) := ⟨hm1, hmin1⟩
        have hX1l : X1.length = ws.length := by rw [← HX1.out.1, List.length_set]; exact HXL.out
        have HX1L : Hid (X1.length = ws.length) := hX1l
        clear hX1 hva hm1 hmin1 hk1 hX1l
        go_wp2_with fail
        refine (take_any w.heap.size ws.length c1 ws.length X1 w1 hrow1 HX1L.out b1 b2 (by omega)).mono ?_
        rintro e w2 ⟨m2, hm2, hmin2, rfl, hrow2, hk2⟩
        have hb2 : Below w.heap.size w w2 := hb1.trans (hk2.below (fun k hk e => by omega) hb1.size)
        obtain ⟨s1, s2, s3, s4⟩ := pool_round hst.out hC.out hs.out h2 HP.out HK.out HC1.out (by omega) HX1.out HM1.out hm2 hmin2
        generalize hX2 : X1.set m2 (X1.getD (c1 - 1) 0) = X2 at *
        generalize hvb : X1.getD m2 0 = vb at *
        have hX2l : X2.length = ws.length := by rw [← hX2, List.length_set]; exact HX1L.out
        have hle := (mergeW_le hst.out hC.out hs.out h2 (show k < ws.length - 1 by have := HK.out; omega)).2
        rw [← s1] at hle
        have hcl := s4.le
        have hkl : (k : Int) ≤ 4094 := by have := HK.out; omega
        have hcn : cost + (va + vb) ≤ 4095 * 1125899906842624 := by
          have := HP.out.le
          have h3 : (k : Int) * 1125899906842624 ≤ 4094 * 1125899906842624 := Int.mul_le_mul_of_nonneg_right hkl (by omega)
          omega
        have q1 := hrow2.cell (show c2 < X2.length by omega)
        have q2 := hrow2.frozen c2
        have HS4 : Hid (PoolAt ws.length s0 (X2.set c2 (va + vb)) (k + 1) (cost + (va + vb))) := s4
        clear hX2 hvb hX2l s1 s4 hmin2 hm2 hk2 hcl hkl
        go_wp2
        go_roundg c1
        case measure => omega
        case rel => exact ⟨k + 1, c1, _, _, Nat.le_refl _, b1, b2, rfl, rfl, ⟨by have := HC1.out; have := HK.out; omega, by have := HK.out; omega⟩, by omega, hcn, HS4, hrow2.set c2 (va + vb), hb2.setCell (Nat.le_refl _) _⟩
      · have hce : cnt = 1 := by omega
        have hfin : cost = Huff.sumF (mergeW ws.length s0) (ws.length - 1) := by
          have h3 := HP.out.sum
          rw [show k = ws.length - 1 by have := HK.out; omega] at h3
          exact h3
        have HF : Hid (cost = Huff.sumF (mergeW ws.length s0) (ws.length - 1)) := hfin
        clear hfin hce
        go_wp2
        go_ret
        exact ⟨by rw [← HF.out]; rfl, hb⟩
end Go.Proofs.Qxb6604297a
