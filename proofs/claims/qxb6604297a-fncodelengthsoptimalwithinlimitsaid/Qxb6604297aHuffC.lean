/-
  The walk of huffman (26).
-/
import Derived.Test.Qxb6604297aHuffW
set_option linter.unusedVariables false
namespace Go.Proofs.Qxb6604297a
open Go.ChangeShapes Go.WideShapes Go.ChangeAt Go.RowKit

/-- What huffman is handed: n symbols, distinct, counted, in ascending order of their counts. -/
structure HDom (cs us : List Int) (L : Nat) : Prop where
  two : 2 ≤ us.length
  idx : ∀ i, i < us.length → 0 ≤ us.getD i 0 ∧ us.getD i 0 < cs.length ∧ us.getD i 0 < L
  dist : ∀ i j, i < us.length → j < us.length → us.getD i 0 = us.getD j 0 → i = j
  pos : ∀ i, i < us.length → 1 ≤ cs.getD (us.getD i 0).toNat 0
  asc : ∀ i j, i ≤ j → j < us.length → cs.getD (us.getD i 0).toNat 0 ≤ cs.getD (us.getD j 0).toNat 0
  sum : Huff.sumF (fun i => cs.getD (us.getD i 0).toNat 0) us.length ≤ 1125899906842624

/-- The leaves' weights. -/
def wts (cs us : List Int) (i : Nat) : Int := cs.getD (us.getD i 0).toNat 0

/-- What huffman leaves of the lengths. -/
structure HLeft (us ls L' D : List Int) (r : Nat) : Prop where
  len : L'.length = ls.length
  at_ : ∀ i, r ≤ i → i < us.length → L'.getD (us.getD i 0).toNat 0 = D.getD i 0
  off : ∀ u, (∀ i, r ≤ i → i < us.length → (us.getD i 0).toNat ≠ u) → L'.getD u 0 = ls.getD u 0

/-- huffman's own memory: n, the weights, the variable that holds them, the parents. -/
structure HM (w wr : World) (n N : Nat) (W P : List Int) : Prop where
  vn : Var wr w.heap.size 3 (.int .i64 n)
  rW : Row wr (w.heap.size + 1) 3 .i64 W
  vw : Var wr (w.heap.size + 1 + 1) 22 (.slice (some ⟨w.heap.size + 1, 0, none⟩) N N)
  rP : Row wr (w.heap.size + 1 + 1 + 1) 3 .i64 P
  lW : W.length = N
  lP : P.length = N
  bel : Below w.heap.size w wr
theorem HM.drew {w wr : World} {n N : Nat} {W P : List Int} (h : HM w wr n N W P) : HM w wr.drew n N W P := ⟨h.vn, h.rW, h.vw, h.rP, h.lW, h.lP, h.bel.drew⟩
theorem HM.setW {w wr : World} {n N : Nat} {W P : List Int} (h : HM w wr n N W P) (j : Nat) (v : Int) : HM w (wr.setCell ⟨w.heap.size + 1, j, none⟩ (.int .i64 v)) n N (W.set j v) P :=
  ⟨h.vn.set_other (by dsimp only; omega) _, h.rW.set j v, h.vw.set_other (by dsimp only; omega) _, h.rP.set_other (by dsimp only; omega) _, by rw [List.length_set]; exact h.lW, h.lP, h.bel.setCell (by dsimp only; omega) _⟩
theorem HM.setP {w wr : World} {n N : Nat} {W P : List Int} (h : HM w wr n N W P) (j : Nat) (v : Int) : HM w (wr.setCell ⟨w.heap.size + 1 + 1 + 1, j, none⟩ (.int .i64 v)) n N W (P.set j v) :=
  ⟨h.vn.set_other (by dsimp only; omega) _, h.rW.set_other (by dsimp only; omega) _, h.vw.set_other (by dsimp only; omega) _, h.rP.set j v, h.lW, by rw [List.length_set]; exact h.lP, h.bel.setCell (by dsimp only; omega) _⟩
theorem HM.start (w : World) (n N : Nat) : HM w ((((w.alloc (.cells #[.int .i64 n] 3)).alloc (.cells (zrow .i64 N) 3)).alloc (.cells #[.slice (some ⟨w.heap.size + 1, 0, none⟩) N N] 22)).alloc (.cells (zrow .i64 N) 3)) n N (List.replicate N 0) (List.replicate N 0) := by
  have e1 : (w.alloc (.cells #[.int .i64 n] 3)).heap.size = w.heap.size + 1 := by simp
  have e2 : ((w.alloc (.cells #[.int .i64 n] 3)).alloc (.cells (zrow .i64 N) 3)).heap.size = w.heap.size + 1 + 1 := by simp
  have e3 : (((w.alloc (.cells #[.int .i64 n] 3)).alloc (.cells (zrow .i64 N) 3)).alloc (.cells #[.slice (some ⟨w.heap.size + 1, 0, none⟩) N N] 22)).heap.size = w.heap.size + 1 + 1 + 1 := by simp
  refine ⟨(((Blk.alloc_new w 3 [.int .i64 n]).alloc _).alloc _).alloc _, ?_, ?_, ?_, by simp, by simp, ?_⟩
  · have h := zrow_row (w.alloc (.cells #[.int .i64 n] 3)) .i64 3 N
    rw [e1] at h
    exact (h.alloc _).alloc _
  · have h := Blk.alloc_new ((w.alloc (.cells #[.int .i64 n] 3)).alloc (.cells (zrow .i64 N) 3)) 22 [.slice (some ⟨w.heap.size + 1, 0, none⟩) N N]
    rw [e2] at h
    exact h.alloc _
  · have h := zrow_row (((w.alloc (.cells #[.int .i64 n] 3)).alloc (.cells (zrow .i64 N) 3)).alloc (.cells #[.slice (some ⟨w.heap.size + 1, 0, none⟩) N N] 22)) .i64 3 N
    rw [e3] at h
    exact h
  · exact ((((Below.refl _ _).alloc (Nat.le_refl _) _).alloc (by simp) _).alloc (by simp; omega) _).alloc (by simp; omega) _

theorem HM.alloc {w wr : World} {n N : Nat} {W P : List Int} (h : HM w wr n N W P) (o : Obj) : HM w (wr.alloc o) n N W P := ⟨Blk.alloc h.vn o, h.rW.alloc o, Blk.alloc h.vw o, h.rP.alloc o, h.lW, h.lP, h.bel.alloc h.bel.size o⟩
theorem HM.keeps {w wr wx : World} {n N : Nat} {W P : List Int} {S : Nat → Prop} (h : HM w wr n N W P) (hk : Keeps S wr wx) (hS : ∀ k, S k → w.heap.size + 1 + 1 + 1 < k) : HM w wx n N W P :=
  ⟨hk.blk h.vn (fun e => by have := hS _ e; omega), hk.row h.rW (fun e => by have := hS _ e; omega), hk.blk h.vw (fun e => by have := hS _ e; omega), hk.row h.rP (fun e => by have := hS _ e; omega), h.lW, h.lP,
    h.bel.trans (hk.below (fun k hk e => by have := hS _ e; omega) h.bel.size)⟩
/-- huffman's memory between two merges. -/
def LS (w wx : World) (n N gl gt : Nat) (s : Huff.HS) : Prop := Var wx gl 3 (.int .i64 s.leaf) ∧ Var wx gt 3 (.int .i64 s.tree) ∧ HM w wx n N s.W s.P
/-- huffman's memory while it reckons the depths. -/
structure HM3 (w wr : World) (n gD gL : Nat) (P D L' : List Int) : Prop where
  vn : Var wr w.heap.size 3 (.int .i64 n)
  rP : Row wr (w.heap.size + 1 + 1 + 1) 3 .i64 P
  rD : Row wr gD 3 .i64 D
  rL : Row wr gL 5 .u8 L'
  keep : Keeps (fun k => k = gL ∨ w.heap.size ≤ k) w wr
  gt : w.heap.size + 1 + 1 + 1 < gD
  lt : gL < w.heap.size
theorem HM3.setD {w wr : World} {n gD gL : Nat} {P D L' : List Int} (h : HM3 w wr n gD gL P D L') (j : Nat) (v : Int) : HM3 w (wr.setCell ⟨gD, j, none⟩ (.int .i64 v)) n gD gL P (D.set j v) L' :=
  ⟨h.vn.set_other (by have := h.gt; dsimp only; omega) _, h.rP.set_other (by have := h.gt; dsimp only; omega) _, h.rD.set j v, h.rL.set_other (by have := h.gt; have := h.lt; dsimp only; omega) _, h.keep.set (.inr (by have := h.gt; dsimp only; omega)) _, h.gt, h.lt⟩
theorem HM3.setL {w wr : World} {n gD gL : Nat} {P D L' : List Int} (h : HM3 w wr n gD gL P D L') (j : Nat) (v : Int) : HM3 w (wr.setCell ⟨gL, j, none⟩ (.int .u8 v)) n gD gL P D (L'.set j v) :=
  ⟨h.vn.set_other (by have := h.lt; dsimp only; omega) _, h.rP.set_other (by have := h.lt; dsimp only; omega) _, h.rD.set_other (by have := h.gt; have := h.lt; dsimp only; omega) _, h.rL.set j v, h.keep.set (.inl rfl) _, h.gt, h.lt⟩
theorem HM3.drew {w wr : World} {n gD gL : Nat} {P D L' : List Int} (h : HM3 w wr n gD gL P D L') : HM3 w wr.drew n gD gL P D L' := ⟨h.vn, h.rP, h.rD, h.rL, h.keep.drew, h.gt, h.lt⟩
theorem HM3.start {w wc : World} {n N gL : Nat} {W P ls : List Int} (h : HM w wc n N W P) (hl : Row w gL 5 .u8 ls) : HM3 w (wc.alloc (.cells (zrow .i64 N) 3)) n wc.heap.size gL P (List.replicate N 0) ls :=
  ⟨Blk.alloc h.vn _, h.rP.alloc _, zrow_row _ _ _ _, (hl.below h.bel hl.lt).alloc _, (Keeps.of_below h.bel (fun k hk => .inr hk)).alloc _, h.rP.lt, hl.lt⟩

theorem hleft_keep {us ls L' D D' : List Int} {i : Nat} (h : HLeft us ls L' D (i + 1)) (hi : us.length ≤ i) : HLeft us ls L' D' i :=
  ⟨h.len, fun j h1 h2 => by omega, fun u hu => h.off u (fun j h1 h2 => by omega)⟩
theorem hleft_step {cs us ls L' D : List Int} {i u : Nat} {v : Int} (hd : HDom cs us ls.length) (h : HLeft us ls L' D (i + 1)) (hi : i < us.length) (hu : us.getD i 0 = (u : Int)) (hD : i < D.length) : HLeft us ls (L'.set u v) (D.set i v) i := by
  have hul : u < L'.length := by rw [h.len]; have := hd.idx i hi; omega
  have hset : ∀ j, (L'.set u v).getD j 0 = if j = u then v else L'.getD j 0 := fun j => Huff.getD_set L' u j v hul
  have hsetD : ∀ j, (D.set i v).getD j 0 = if j = i then v else D.getD j 0 := fun j => Huff.getD_set D i j v hD
  refine ⟨by rw [List.length_set]; exact h.len, ?_, ?_⟩
  · intro j h1 h2
    rw [hset, hsetD]
    by_cases e : j = i
    · rw [if_pos e, e, hu, Int.toNat_natCast, if_pos rfl]
    · have hne : ¬ (us.getD j 0).toNat = u := fun e2 => e (hd.dist j i h2 hi (by have := hd.idx j h2; omega))
      rw [if_neg e, if_neg hne]
      exact h.at_ j (by omega) h2
  · intro x hx
    have hxu : ¬ x = u := fun e => hx i (Nat.le_refl _) hi (by rw [hu, Int.toNat_natCast, e])
    rw [hset, if_neg hxu]
    exact h.off x (fun j h1 h2 => hx j (by omega) h2)
theorem lg_le {n : Nat} {C : Nat → Int} {W P D : List Int} {i : Nat} {v : Int} (T : Huff.Tree n C W P) (d : Huff.Dep n P (D.set i v) i) (hn : 2 ≤ n) (hi : i < n) (hD : i < D.length) : (if i + 1 < n then D.getD (i + 1) 0 else 0) ≤ v := by
  have hset : ∀ j, (D.set i v).getD j 0 = if j = i then v else D.getD j 0 := fun j => Huff.getD_set D i j v hD
  have h0 := Huff.dep_nonneg T d hn i (by omega) (Nat.le_refl _)
  rw [hset, if_pos rfl] at h0
  by_cases e : i + 1 < n
  · rw [if_pos e]
    have h := Huff.dep_mono_leaf T d hn (Nat.le_refl i) (Nat.le_succ i) e
    rw [hset, hset, if_pos rfl, if_neg (by omega)] at h
    exact h
  · rw [if_neg e]; exact h0
theorem rep_getD (N j : Nat) : (List.replicate N (0 : Int)).getD j 0 = 0 := by
  rw [List.getD_eq_getElem?_getD, List.getElem?_replicate]
  split <;> rfl
theorem two_vars (w : World) (a b : Value) : Var ((w.alloc (.cells #[a] 3)).alloc (.cells #[b] 3)).drew w.heap.size 3 a ∧ Var ((w.alloc (.cells #[a] 3)).alloc (.cells #[b] 3)).drew (w.heap.size + 1) 3 b := by
  refine ⟨Blk.drew (Blk.alloc (Blk.alloc_new w 3 [a]) _), Blk.drew ?_⟩
  have h := Blk.alloc_new (w.alloc (.cells #[a] 3)) 3 [b]
  have e : (w.alloc (.cells #[a] 3)).heap.size = w.heap.size + 1 := by simp
  rw [e] at h
  exact h

theorem idx_nat {cs us : List Int} {L : Nat} (hd : HDom cs us L) {j : Nat} (hj : j < us.length) : ∃ u : Nat, us.getD j 0 = (u : Int) ∧ u < cs.length ∧ u < L ∧ wts cs us j = cs.getD u 0 := by
  have h := hd.idx j hj
  refine ⟨(us.getD j 0).toNat, by omega, by omega, by omega, rfl⟩

theorem run_weight_le {n : Nat} {C : Nat → Int} {s : Huff.HS} (h : Huff.HI n n n C s.leaf s.tree s.W s.P) (hC : ∀ i j, i ≤ j → j < n → C i ≤ C j) (h0 : s.leaf + s.tree = n) (T : Huff.Tree n C (Huff.hrun n s (n - 1)).W (Huff.hrun n s (n - 1)).P)
    (hs : Huff.sumF C n ≤ 1125899906842624) (hn : 2 ≤ n) (k : Nat) (hk : k < n - 1) : (Huff.hrun n s (k + 1)).W.getD (n + k) 0 ≤ 1125899906842624 := by
  have h1 := Huff.keepW h hC h0 (by omega) (k + 1) (n + k) (by omega) (n - 1 - (k + 1)) (by omega)
  rw [show k + 1 + (n - 1 - (k + 1)) = n - 1 by omega] at h1
  rw [← h1]
  have h2 := Huff.root_weight T
  by_cases e : n + k = 2 * n - 2
  · rw [e, h2]; exact hs
  · have := T.top (n + k) (by omega)
    omega

/-- The start of the merges: the leaves' weights, no tree. -/
structure HStart (C : Nat → Int) (n : Nat) (s0 : Huff.HS) : Prop where
  leaf : s0.leaf = 0
  tree : s0.tree = n
  inv : Huff.HI n n n C s0.leaf s0.tree s0.W s0.P
theorem HStart.done {C : Nat → Int} {n : Nat} {s0 : Huff.HS} (h : HStart C n s0) (hC : ∀ i j, i ≤ j → j < n → C i ≤ C j) (hn : 2 ≤ n) : Huff.Tree n C (Huff.hrun n s0 (n - 1)).W (Huff.hrun n s0 (n - 1)).P :=
  Huff.tree_of_run h.inv hC h.leaf h.tree hn

set_option maxRecDepth 100000 in
set_option maxHeartbeats 4000000 in
theorem huffman_run (cs us ls : List Int) (ca ua : Option Addr) (cc uc lc gL : Nat) (w : World) (hc : Reads w .i64 ca cs) (hu : Reads w .i64 ua us) (hl : Row w gL 5 .u8 ls) (hcg : ∀ x, ca = some x → x.block ≠ gL) (hug : ∀ x, ua = some x → x.block ≠ gL)
    (hd : HDom cs us ls.length) (hsz : us.length ≤ 4096) :
    Calls Try.prog 26 #[.slice ca cs.length cc, .slice ua us.length uc, .slice (some ⟨gL, 0, none⟩) ls.length lc] w fun e w' => ∃ (s0 : Huff.HS) (D L' : List Int), HStart (wts cs us) us.length s0 ∧ Huff.Dep us.length (Huff.hrun us.length s0 (us.length - 1)).P D 0 ∧ e = .returned (.int .i64 (D.getD 0 0)) ∧
      Row w' gL 5 .u8 L' ∧ HLeft us ls L' D 0 ∧ Keeps (fun k => k = gL ∨ w.heap.size ≤ k) w w' := by
  have h2 := hd.two
  obtain ⟨n, hn⟩ : ∃ n, n = us.length := ⟨_, rfl⟩
  obtain ⟨N, hN⟩ : ∃ N, N + 1 = 2 * n := ⟨2 * n - 1, by omega⟩
  have hmk : ∀ w : World, (Instr.makeSlice 22 (.int .i64 (2 * (us.length : Int) - 1)) (.int .i64 (2 * (us.length : Int) - 1))).run Try.prog w = .ok (.slice (some ⟨w.heap.size, 0, none⟩) N N) (w.alloc (.cells (zrow .i64 N) 3)) := fun w => by
    have e : (2 * (us.length : Int) - 1) = (N : Int) := by omega
    rw [e]
    exact make_ints 22 3 .i64 8 Try.underlying22 Try.info3 (by decide) N N (Nat.le_refl _) (by omega) w
  have HD : Hid (HDom cs us ls.length) := hd
  obtain ⟨ub, uo, rfl⟩ := hu.addr (by omega)
  obtain ⟨cb, co, rfl⟩ := hc.addr (by have := hd.idx 0 (by omega); omega)
  clear hd
  go_enter Try.func26, Try.ntmps26
  go_upto_block 0 with fail
  go_cut [33] (fun _ wx => ∃ W, (∀ i, i < us.length → W.getD i 0 = wts cs us i) ∧ HM w wx us.length N W (List.replicate N 0))
  case first =>
    go_wp2
    go_loopg [33] us.length (fun k i wx => ∃ (j : Nat) (W : List Int), us.length - j ≤ k ∧ i = .int .i64 j ∧ j ≤ us.length ∧ (∀ i, i < j → W.getD i 0 = wts cs us i) ∧ HM w wx us.length N W (List.replicate N 0))
    case atStart => exact ⟨0, _, by omega, rfl, by omega, fun i hi => by omega, HM.start w us.length N⟩
    case round =>
      obtain ⟨j, W, hk, rfl, hj, hWj, hm⟩ := hrel
      by_cases hlt : j < us.length
      · obtain ⟨u, hu1, hu2, hu3, hu4⟩ := idx_nat HD.out hlt
        have q1 : wr.cell? ⟨ub, uo + j, none⟩ = some (.int .i64 u) := by rw [hm.bel.cell (by exact (hu.at hlt).1), (hu.at hlt).2, hu1]
        have q2 : wr.cell? ⟨cb, co + u, none⟩ = some (.int .i64 (wts cs us j)) := by rw [hm.bel.cell (by exact (hc.at hu2).1), (hc.at hu2).2, hu4]
        have q3 := hm.vw.cell
        have q4 := hm.rW.cell (show j < W.length by rw [hm.lW]; omega)
        have q5 := hm.rW.frozen j
        obtain ⟨cj, hcj⟩ : ∃ cj, cj = wts cs us j := ⟨_, rfl⟩
        rw [← hcj] at q2
        have HC : Hid (cj = wts cs us j) := hcj
        have HM' := hm
        have HWj : Hid (∀ i, i < j → W.getD i 0 = wts cs us i) := hWj
        have i1 : (j : Int) < (N : Int) := by omega
        have i2 : (u : Int) < (cs.length : Int) := by omega
        have i3 : (j : Int) < (us.length : Int) := by omega
        clear hcj hWj hu1 hu4
        go_wp2
        go_region
        go_wp2
        go_roundg (us.length - (j + 1))
        case measure => omega
        case rel =>
          refine ⟨j + 1, W.set j cj, Nat.le_refl _, by go_num, by omega, ?_, (HM'.setW j cj).drew⟩
          intro i hi
          rw [Huff.getD_set _ _ _ _ (by rw [HM'.lW]; omega)]
          by_cases e : i = j
          · rw [if_pos e, e]; exact HC.out
          · rw [if_neg e]; exact HWj.out i (by omega)
      · go_wp2
        go_meet
        case rel => exact ⟨W, fun i hi => hWj i (by omega), hm⟩
  case rest =>
    obtain ⟨W, hW, hm⟩ := hcut
    have HWj : Hid (∀ i, i < us.length → W.getD i 0 = wts cs us i) := hW
    clear hW
    have HMc : Hid (HM w wc us.length N W (List.replicate N 0)) := hm
    have q1 := hm.vn.cell
    have hsz0 := hm.vn.lt
    have hsz1 := hm.rP.lt
    clear hm
    go_upto_region 9 with fail
    go_cut [12, 13] (fun t s wx => ∃ gl gt, t = .pointer (some ⟨gl, 0, none⟩) ∧ s = .pointer (some ⟨gt, 0, none⟩) ∧ gl ≠ gt ∧ wc.heap.size ≤ gl ∧ wc.heap.size ≤ gt ∧ Var wx gl 3 (.int .i64 0) ∧ Var wx gt 3 (.int .i64 us.length) ∧ HM w wx us.length N W (List.replicate N 0))
    case first =>
      go_region
      all_goals go_wp2
      all_goals go_meet
      all_goals first
        | exact ⟨_, _, rfl, rfl, by omega, by omega, by omega, (two_vars wc _ _).1, (two_vars wc _ _).2, ((HMc.out.alloc _).alloc _).drew⟩
        | exact ⟨_, _, rfl, rfl, by omega, by omega, by omega, (two_vars wc _ _).2, (two_vars wc _ _).1, ((HMc.out.alloc _).alloc _).drew⟩
    case rest =>
      obtain ⟨gl, gt, rfl, rfl, hne, hgl, hgt, vl, vt, hm⟩ := hcut
      have hgl' : w.heap.size + 1 + 1 + 1 < gl := by omega
      have hgt' : w.heap.size + 1 + 1 + 1 < gt := by omega
      have q1 := hm.vn.cell
      clear HMc hsz0 hsz1 hgl hgt
      have HI0 : Hid (Huff.HI us.length us.length us.length (wts cs us) 0 us.length W (List.replicate N 0)) := Huff.start (by rw [hm.lW]; omega) (by rw [hm.lP]; omega) HWj.out HD.out.pos
      obtain ⟨s0, hs0⟩ : ∃ s0 : Huff.HS, s0 = { leaf := 0, tree := us.length, W := W, P := List.replicate N 0 } := ⟨_, rfl⟩
      have HT : Hid (Huff.Tree us.length (wts cs us) (Huff.hrun us.length s0 (us.length - 1)).W (Huff.hrun us.length s0 (us.length - 1)).P) := by
        refine Huff.tree_of_run (C := wts cs us) ?_ HD.out.asc ?_ ?_ h2
        · rw [hs0]; exact HI0.out
        · rw [hs0]
        · rw [hs0]
      have HS : Hid (Huff.HI us.length us.length us.length (wts cs us) s0.leaf s0.tree s0.W s0.P ∧ s0.leaf + s0.tree = us.length) := by rw [hs0]; exact ⟨HI0.out, by simp⟩
      have HST0 : Hid (HStart (wts cs us) us.length s0) := ⟨by rw [hs0], by rw [hs0], by rw [hs0]; exact HI0.out⟩
      have hls : LS w wc us.length N gl gt s0 := by rw [hs0]; exact ⟨vl, vt, hm⟩
      clear HI0 vl vt hm hs0 HWj
      go_upto_block 2 with fail
      go_cut [15] (fun _ wx => HM w wx us.length N (Huff.hrun us.length s0 (us.length - 1)).W (Huff.hrun us.length s0 (us.length - 1)).P)
      case first =>
        go_wp2
        go_loopg [15] N (fun k t wx => ∃ m : Nat, N - m ≤ k ∧ t = .int .i64 m ∧ us.length ≤ m ∧ m ≤ N ∧ LS w wx us.length N gl gt (Huff.hrun us.length s0 (m - us.length)))
        case atStart => exact ⟨us.length, by omega, rfl, by omega, by omega, by rw [Nat.sub_self]; exact hls⟩
        case round =>
          obtain ⟨m, hk, rfl, hm1, hm2, vl, vt, hm⟩ := hrel
          by_cases hlt : m < N
          · have M := Huff.run_merge HS.out.1 HD.out.asc HS.out.2 (by omega) (m - us.length) (by omega)
            have em : us.length + (m - us.length) = m := by omega
            rw [em] at M
            have hI := (Huff.run_inv HS.out.1 HD.out.asc HS.out.2 (by omega) (m - us.length) (by omega)).1
            rw [em] at hI
            have hWle := run_weight_le HS.out.1 HD.out.asc HS.out.2 HT.out HD.out.sum (by omega) (m - us.length) (by omega)
            rw [em] at hWle
            obtain ⟨a, ea⟩ : ∃ a, (Huff.pickA us.length m (Huff.hrun us.length s0 (m - us.length))).1 = a := ⟨_, rfl⟩
            obtain ⟨b, eb⟩ : ∃ b, (Huff.pickB us.length m (Huff.hrun us.length s0 (m - us.length))).1 = b := ⟨_, rfl⟩
            rw [ea, eb] at M
            obtain ⟨s, es⟩ : ∃ s, Huff.hrun us.length s0 (m - us.length) = s := ⟨_, rfl⟩
            obtain ⟨s', es'⟩ : ∃ s', Huff.hrun us.length s0 (m - us.length + 1) = s' := ⟨_, rfl⟩
            rw [es, es'] at M
            rw [es] at hI vl vt hm
            rw [es', M.wm] at hWle
            clear ea eb es
            have ES' : Hid (Huff.hrun us.length s0 (m - us.length + 1) = s') := es'
            clear es'
            obtain ⟨l, t, hp1, hp2, g1, g2, g3, _⟩ := M.mid
            have ha := M.am
            have hb := M.bm
            have hpa := hI.pos a ha
            have hpb := hI.pos b hb
            have b1 := hI.hl
            have b2 := hI.ht
            have HMm : Hid (Huff.Merge us.length m (wts cs us) s s' a b) := M
            have HP1 : Hid (Huff.pick us.length m s.W s.leaf s.tree = (a, l, t)) := hp1
            have HP2 : Hid (Huff.pick us.length m s.W l t = (b, s'.leaf, s'.tree)) := hp2
            have HVL : Hid (Var wr gl 3 (.int .i64 s.leaf)) := vl
            have HVT : Hid (Var wr gt 3 (.int .i64 s.tree)) := vt
            have HH : Hid (HM w wr us.length N s.W s.P) := hm
            have q1 := hm.vn.cell
            clear M hp1 hp2 vl vt hm hI
            go_wp2_with fail
            refine (lightest m us.length s.leaf s.tree gl w.heap.size gt (w.heap.size + 1 + 1) (w.heap.size + 1) N s.W wr HVL.out HH.out.vn HVT.out HH.out.vw HH.out.rW HH.out.lW hne (by omega) (by omega) (by omega) b2 (by omega) (by omega) HP1.out).mono ?_
            rintro e w1 ⟨rfl, vl1, vt1, hk1⟩
            have HVL1 : Hid (Var w1 gl 3 (.int .i64 l)) := vl1
            have HVT1 : Hid (Var w1 gt 3 (.int .i64 t)) := vt1
            have HH1 : Hid (HM w w1 us.length N s.W s.P) := HH.out.keeps hk1 (fun k hk => by rcases hk with rfl | rfl <;> assumption)
            clear vl1 vt1 hk1
            go_wp2_with fail
            refine (lightest m us.length l t gl w.heap.size gt (w.heap.size + 1 + 1) (w.heap.size + 1) N s.W w1 HVL1.out HH1.out.vn HVT1.out HH1.out.vw HH1.out.rW HH1.out.lW hne (by omega) (by omega) (by omega) g3 (by omega) (by omega) HP2.out).mono ?_
            rintro e w2 ⟨rfl, vl2, vt2, hk2⟩
            have HVL2 : Hid (Var w2 gl 3 (.int .i64 s'.leaf)) := vl2
            have HVT2 : Hid (Var w2 gt 3 (.int .i64 s'.tree)) := vt2
            have hm2' := HH1.out.keeps hk2 (fun k hk => by rcases hk with rfl | rfl <;> assumption)
            have HH2 : Hid (HM w w2 us.length N s.W s.P) := hm2'
            have p1 := hm2'.vw.cell
            have p2 := hm2'.rW.cell (show a < s.W.length by rw [hm2'.lW]; omega)
            have p3 := hm2'.rW.cell (show b < s.W.length by rw [hm2'.lW]; omega)
            have p4 := hm2'.rW.cell (show m < s.W.length by rw [hm2'.lW]; omega)
            have p5 := hm2'.rW.frozen m
            have p6 := hm2'.rP.cell (show a < s.P.length by rw [hm2'.lP]; omega)
            have p7 := hm2'.rP.cell (show b < s.P.length by rw [hm2'.lP]; omega)
            have p8 := hm2'.rP.frozen a
            have p9 := hm2'.rP.frozen b
            have i1 : (a : Int) < (N : Int) := by omega
            have i2 : (b : Int) < (N : Int) := by omega
            have i3 : (m : Int) < (N : Int) := by omega
            clear vl2 vt2 hk2 hm2'
            obtain ⟨va, hva⟩ : ∃ va, va = s.W.getD a 0 := ⟨_, rfl⟩
            obtain ⟨vb, hvb⟩ : ∃ vb, vb = s.W.getD b 0 := ⟨_, rfl⟩
            rw [← hva] at p2 hpa hWle
            rw [← hvb] at p3 hpb hWle
            have HVA : Hid (va = s.W.getD a 0 ∧ vb = s.W.getD b 0) := ⟨hva, hvb⟩
            clear hva hvb
            have hab : ¬ a = b := HMm.out.ab
            have hba : ¬ b = a := fun e => hab e.symm
            go_upto_region 16 with fail
            go_region
            go_wp2
            go_roundg (N - (m + 1))
            case measure => omega
            case rel =>
              refine ⟨m + 1, Nat.le_refl _, by go_num, by omega, by omega, ?_⟩
              rw [show m + 1 - us.length = m - us.length + 1 by omega, ES'.out]
              have H3 := (((HH2.out.setW m (va + vb)).setP a m).setP b m).drew
              rw [HVA.out.1, HVA.out.2, ← HMm.out.eqW, ← HMm.out.eqP] at H3
              refine ⟨?_, ?_, by rw [HVA.out.1, HVA.out.2]; exact H3⟩
              · exact Blk.drew (((HVL2.out.set_other (by dsimp only; omega) _).set_other (by dsimp only; omega) _).set_other (by dsimp only; omega) _)
              · exact Blk.drew (((HVT2.out.set_other (by dsimp only; omega) _).set_other (by dsimp only; omega) _).set_other (by dsimp only; omega) _)
          · have emN : m = N := by omega
            have q1 := hm.vn.cell
            have HH : Hid (HM w wr us.length N (Huff.hrun us.length s0 (us.length - 1)).W (Huff.hrun us.length s0 (us.length - 1)).P) := by
              rw [show us.length - 1 = m - us.length by omega]; exact hm
            clear hm vl vt
            go_wp2
            go_meet
            case rel => exact HH.out
      case rest =>
        have hm := hcut
        have hT := HT.out
        obtain ⟨W, hWe⟩ : ∃ W, (Huff.hrun us.length s0 (us.length - 1)).W = W := ⟨_, rfl⟩
        obtain ⟨P, hPe⟩ : ∃ P, (Huff.hrun us.length s0 (us.length - 1)).P = P := ⟨_, rfl⟩
        rw [hWe, hPe] at hm hT
        have HPE : Hid ((Huff.hrun us.length s0 (us.length - 1)).P = P) := hPe
        clear hWe hPe hcut
        have HT' : Hid (Huff.Tree us.length (wts cs us) W P) := hT
        have HH : Hid (HM w wc us.length N W P) := hm
        have q1 := hm.vn.cell
        have hzs := hm.vn.lt
        clear hT hm HT HS hls
        go_wp2
        go_loopg [19, 20] (2 * us.length - 2) (fun k lg t wx => ∃ (r : Nat) (z lgv : Int) (D L' : List Int), r ≤ k ∧ r ≤ 2 * us.length - 2 ∧ t = .int .i64 z ∧ z = (r : Int) - 1 ∧ Huff.Dep us.length P D r ∧ HLeft us ls L' D r ∧ lg = .int .i64 lgv ∧ lgv = (if r < us.length then D.getD r 0 else 0) ∧ HM3 w wx us.length wc.heap.size gL P D L')
        case atStart =>
          refine ⟨2 * us.length - 2, _, _, _, _, Nat.le_refl _, Nat.le_refl _, rfl, by omega, ⟨by simp; omega, rep_getD _ _, fun j h1 h2 => by omega⟩, ⟨rfl, fun j h1 h2 => by omega, fun u _ => rfl⟩, rfl, by rw [if_neg (by omega)], HM3.start HH.out hl⟩
        case round =>
          obtain ⟨r, z, lgv, D, L', hk, hr, rfl, hz, hdep, hleft, rfl, hlg, hm⟩ := hrel
          have q1 := hm.vn.cell
          cases r with
          | zero =>
            have hzm : z = -1 := by omega
            subst hzm
            clear hz
            have hH : Hid (Huff.Dep us.length P D 0 ∧ HLeft us ls L' D 0 ∧ HM3 w wr us.length wc.heap.size gL P D L') := ⟨hdep, hleft, hm⟩
            rw [if_pos (by omega)] at hlg
            have hLG : Hid (lgv = D.getD 0 0) := hlg
            clear hlg hdep hleft hm
            go_wp2
            go_ret
            refine ⟨s0, D, L', HST0.out, by rw [HPE.out]; exact hH.out.1, ?_, hH.out.2.2.rL, hH.out.2.1, hH.out.2.2.keep⟩
            rw [← hLG.out]
            rfl
          | succ i =>
            have hzi : z = (i : Int) := by omega
            subst hzi
            clear hz
            obtain ⟨p, hp1, hp2, hp3, hp4, hp5⟩ := Huff.par_nat HT'.out (show i < 2 * us.length - 2 by omega)
            have hDl := hdep.len
            have hPl := HT'.out.lenP
            have q2 : wr.cell? ⟨w.heap.size + 1 + 1 + 1, i, none⟩ = some (.int .i64 p) := by rw [hm.rP.cell (by omega), hp1]
            have q3 := hm.rD.cell (show p < D.length by omega)
            have q4 := hm.rD.cell (show i < D.length by omega)
            have q5 := hm.rD.frozen i
            have hd0 := Huff.dep_nonneg HT'.out hdep h2 p hp4 (by omega)
            have hd1 := Huff.dep_bound HT'.out hdep h2 HD.out.sum hp4 (by omega)
            have hdep' := Huff.dep_step HT'.out hdep (by omega) hp1
            have HST : Hid (Huff.Dep us.length P (D.set i (D.getD p 0 + 1)) i ∧ HLeft us ls L' D (i + 1) ∧ HM3 w wr us.length wc.heap.size gL P D L') := ⟨hdep', hleft, hm⟩
            have HLG : Hid (lgv = if i + 1 < us.length then D.getD (i + 1) 0 else 0) := hlg
            obtain ⟨dp, hdp⟩ : ∃ dp, dp = D.getD p 0 := ⟨_, rfl⟩
            rw [← hdp] at q3 hd0 hd1 HST
            have i1 : (i : Int) < (N : Int) := by omega
            have i2 : (p : Int) < (N : Int) := by omega
            clear hdp hdep' hlg
            by_cases hin : i < us.length
            · obtain ⟨u, hu1, hu2, hu3, hu4⟩ := idx_nat HD.out hin
              have hub : ¬ (ub = gL ∨ w.heap.size ≤ ub) := fun e => e.elim (hug _ rfl) (fun h => by have := (hu.at hin).1; omega)
              have q6 : wr.cell? ⟨ub, uo + i, none⟩ = some (.int .i64 u) := by
                rw [World.cell?_of_block (hm.keep.block ub (hu.at hin).1 hub), (hu.at hin).2, hu1]
              have q7 := hm.rL.cell (show u < L'.length by rw [hleft.len]; omega)
              have q8 := hm.rL.frozen u
              have i3 : (u : Int) < (ls.length : Int) := by omega
              have i4 : (i : Int) < (us.length : Int) := by omega
              have g1 := hm.gt
              have g2 := hm.lt
              have hlgle : lgv ≤ dp + 1 := by rw [HLG.out]; exact lg_le HT'.out HST.out.1 h2 hin (by omega)
              have hub2 : ub < w.heap.size := (hu.at hin).1
              have hne1 : ¬ ub = wc.heap.size := by omega
              clear hdep hleft hm hu4
              go_upto_region 25 with fail
              go_region
              go_wp2
              all_goals
                go_roundg i
                case measure => omega
                case rel =>
                  refine ⟨i, _, _, D.set i (dp + 1), L'.set u (dp + 1), Nat.le_refl _, by omega, rfl, by omega, HST.out.1, hleft_step HD.out HST.out.2.1 hin hu1 (by omega), rfl, ?_, ((HST.out.2.2.setD i (dp + 1)).setL u (dp + 1)).drew⟩
                  rw [if_pos hin, Huff.getD_set _ _ _ _ (by omega), if_pos rfl]
                  all_goals omega
            · clear hdep hleft hm
              go_wp2
              go_roundg i
              case measure => omega
              case rel =>
                refine ⟨i, _, lgv, D.set i (dp + 1), L', Nat.le_refl _, by omega, rfl, by omega, HST.out.1, hleft_keep HST.out.2.1 (by omega), rfl, ?_, HST.out.2.2.setD i (dp + 1)⟩
                rw [HLG.out, if_neg (by omega), if_neg (by omega)]

theorem huffman_any (cs us ls : List Int) (ca ua : Option Addr) (cc uc lc gL : Nat) (w : World) (hc : Reads w .i64 ca cs) (hu : Reads w .i64 ua us) (hl : Row w gL 5 .u8 ls) (hcg : ∀ x, ca = some x → x.block ≠ gL) (hug : ∀ x, ua = some x → x.block ≠ gL)
    (hd : HDom cs us ls.length) (hsz : us.length ≤ 4096) :
    Calls Try.prog 26 #[.slice ca cs.length cc, .slice ua us.length uc, .slice (some ⟨gL, 0, none⟩) ls.length lc] w fun e w' => ∃ (W P D L' : List Int), Huff.Tree us.length (wts cs us) W P ∧ Huff.Dep us.length P D 0 ∧ e = .returned (.int .i64 (D.getD 0 0)) ∧
      Row w' gL 5 .u8 L' ∧ HLeft us ls L' D 0 ∧ Keeps (fun k => k = gL ∨ w.heap.size ≤ k) w w' := by
  refine (huffman_run cs us ls ca ua cc uc lc gL w hc hu hl hcg hug hd hsz).mono ?_
  rintro e w' ⟨s0, D, L', h1, h2, h3, h4, h5, h6⟩
  exact ⟨_, _, D, L', h1.done hd.asc hd.two, h2, h3, h4, h5, h6⟩
end Go.Proofs.Qxb6604297a
