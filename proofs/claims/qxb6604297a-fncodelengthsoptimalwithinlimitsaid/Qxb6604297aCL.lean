/-
  The walk of codeLengths (25).
-/
import Derived.Test.Qxb6604297aCLM
import Derived.Laws.EntriesVeiled
set_option linter.unusedVariables false
namespace Go.Proofs.Qxb6604297a
open Go.ChangeShapes Go.WideShapes Go.ChangeAt Go.RowKit

/-- What the lengths come to. -/
structure CLen (cs : List Int) (lim : Nat) (L : List Int) : Prop where
  len : L.length = cs.length
  off : ∀ s, s < cs.length → cs.getD s 0 ≤ 0 → L.getD s 0 = 0
  one : (scan cs cs.length).length = 1 → ∀ s, s < cs.length → 0 < cs.getD s 0 → L.getD s 0 = 1
  more : 2 ≤ (scan cs cs.length).length → ∃ us, HDom cs us cs.length ∧ Covers cs us ∧ us.length = (scan cs cs.length).length ∧
    ((∃ (s0 : Huff.HS) (D : List Int), HStart (wts cs us) us.length s0 ∧ Huff.Dep us.length (Huff.hrun us.length s0 (us.length - 1)).P D 0 ∧ D.getD 0 0 ≤ (lim : Int) ∧ ∀ i, i < us.length → L.getD (us.getD i 0).toNat 0 = D.getD i 0) ∨
     (lim ≤ 100 ∧ ∀ i, i < us.length → L.getD (us.getD i 0).toNat 0 = PM.D us.length (wts cs us) (lim - 1) i))

def CLPost (cs : List Int) (lim : Nat) (w : World) (e : Ending) (w' : World) : Prop :=
  ∃ (gL : Nat) (L : List Int), e = .returned (.slice (some ⟨gL, 0, none⟩) cs.length cs.length) ∧ Row w' gL 5 .u8 L ∧ w.heap.size ≤ gL ∧ CLen cs lim L ∧ Below w.heap.size w w'

/-- The three first blocks. -/
structure CL0 (w wx : World) (cs : List Int) (ca : Option Addr) (cc : Nat) : Prop where
  cv : Var wx w.heap.size 22 (.slice ca cs.length cc)
  row : Row wx (w.heap.size + 1) 5 .u8 (List.replicate cs.length 0)
  lv : Var wx (w.heap.size + 2) 26 (.slice (some ⟨w.heap.size + 1, 0, none⟩) cs.length cs.length)
  bel : Below w.heap.size w wx

theorem cl0_start (w : World) (cs : List Int) (ca : Option Addr) (cc : Nat) :
    CL0 w (((w.alloc (.cells #[.slice ca cs.length cc] 22)).alloc (.cells (zrow .u8 cs.length) 5)).alloc (.cells #[.slice (some ⟨w.heap.size + 1, 0, none⟩) cs.length cs.length] 26)) cs ca cc ∧
    (((w.alloc (.cells #[.slice ca cs.length cc] 22)).alloc (.cells (zrow .u8 cs.length) 5)).alloc (.cells #[.slice (some ⟨w.heap.size + 1, 0, none⟩) cs.length cs.length] 26)).heap.size = w.heap.size + 3 := by
  refine ⟨⟨?_, ?_, ?_, ?_⟩, by simp⟩
  · exact Blk.alloc (Blk.alloc (Blk.alloc_new w 22 [.slice ca cs.length cc]) _) _
  · have h := zrow_row (w.alloc (.cells #[.slice ca cs.length cc] 22)) .u8 5 cs.length
    have e : (w.alloc (.cells #[.slice ca cs.length cc] 22)).heap.size = w.heap.size + 1 := by simp
    rw [e] at h
    exact h.alloc _
  · have h := Blk.alloc_new ((w.alloc (.cells #[.slice ca cs.length cc] 22)).alloc (.cells (zrow .u8 cs.length) 5)) 26 [.slice (some ⟨w.heap.size + 1, 0, none⟩) cs.length cs.length]
    have e : ((w.alloc (.cells #[.slice ca cs.length cc] 22)).alloc (.cells (zrow .u8 cs.length) 5)).heap.size = w.heap.size + 2 := by simp
    rw [e] at h
    exact h
  · exact (((Below.refl _ _).alloc (Nat.le_refl _) _).alloc (by simp) _).alloc (by simp; omega) _

/-- The same blocks behind the scan: nothing below w.heap.size + 3 has turned. -/
theorem CL0.below {w wx wy : World} {cs : List Int} {ca : Option Addr} {cc : Nat} (h : CL0 w wx cs ca cc) (hb : Below (w.heap.size + 3) wx wy) : CL0 w wy cs ca cc :=
  ⟨h.cv.below hb (by omega), h.row.below hb (by omega), h.lv.below hb (by omega), h.bel.trans (hb.mono (by omega))⟩

theorem clen_none {cs : List Int} (lim : Nat) (h : (scan cs cs.length).length = 0) : CLen cs lim (List.replicate cs.length 0) :=
  ⟨by simp, fun s hs _ => by simp [List.getD_eq_getElem?_getD, hs], fun h1 => by omega, fun h1 => by omega⟩
theorem clen_one {cs : List Int} (lim : Nat) {u : Nat} (h : (scan cs cs.length).length = 1) (hu : (scan cs cs.length).getD 0 0 = (u : Int)) : CLen cs lim ((List.replicate cs.length 0).set u 1) := by
  have hc := covers_of (Srt.Dealt.refl 0 (scan cs cs.length).length (scan cs cs.length))
  have hget : ∀ s, s < cs.length → ((List.replicate cs.length (0 : Int)).set u 1).getD s 0 = if s = u then 1 else 0 := by
    intro s hs
    by_cases e : s = u
    · subst e; simp [List.getD_eq_getElem?_getD, hs]
    · rw [if_neg e, List.getD_eq_getElem?_getD, List.getElem?_set_ne (fun h => e h.symm)]; simp [hs]
  refine ⟨by simp, ?_, ?_, fun h1 => by omega⟩
  · intro s hs hle
    rw [hget s hs, if_neg]
    intro e
    obtain ⟨s', h1, h2, h3⟩ := hc.src 0 (by omega)
    have : s' = u := by omega
    subst this
    subst e
    omega
  · intro _ s hs hp
    obtain ⟨i, hi, e⟩ := hc.all s hs hp
    have : i = 0 := by omega
    subst this
    rw [hget s hs, if_pos (by omega)]

theorem owns_srow {w : World} {B : Nat} {v : Value} {xs : List Int} (h : Owns w B 3 .i64 v xs) (hx : 0 < xs.length) : ∃ g c, v = .slice (some ⟨g, 0, none⟩) xs.length c ∧ SRow w g xs ∧ B ≤ g := by
  rcases h.2 with ⟨_, h2⟩ | ⟨g, cap, cur, hv, hb, hg, hnc, hcm, hcs, htake⟩
  · omega
  · refine ⟨g, cap, hv, ⟨cur.toList.drop (xs.length * 1), ?_⟩, hb⟩
    unfold Blk
    rw [← htake, List.take_append_drop, Array.toArray_toList]
    exact hg
theorem allOk_scan {cs : List Int} (ht : tot cs cs.length ≤ 1125899906842624) : AllOk cs (scan cs cs.length) := by
  have hc := covers_of (Srt.Dealt.refl 0 (scan cs cs.length).length (scan cs cs.length))
  intro i hi
  obtain ⟨s, h1, h2, h3⟩ := hc.src i hi
  have h4 := PM.sumF_one (fun i => cs.getD ((scan cs cs.length).getD i 0).toNat 0) (scan cs cs.length).length (fun k hk => by
    obtain ⟨s', _, e, h5⟩ := hc.src k hk
    rw [e, Int.toNat_natCast]; omega) hi
  rw [hc.sum, h2, Int.toNat_natCast] at h4
  refine ⟨by omega, by omega, ?_, ?_⟩ <;> unfold keyOf <;> rw [h2, Int.toNat_natCast] <;> omega

theorem rep_get (n s : Nat) : (List.replicate n (0 : Int)).getD s 0 = 0 := by
  by_cases h : s < n
  · simp [List.getD_eq_getElem?_getD, h]
  · rw [List.getD_eq_getElem?_getD, List.getElem?_eq_none (by simp; omega)]; rfl
theorem not_used {cs us : List Int} (hc : Covers cs us) {s : Nat} (hle : cs.getD s 0 ≤ 0) : ∀ i, i < us.length → (us.getD i 0).toNat ≠ s := by
  intro i hi e
  obtain ⟨s', h1, h2, h3⟩ := hc.src i hi
  rw [h2, Int.toNat_natCast] at e
  subst e
  omega
theorem clen_huff {cs us L' D : List Int} {lim : Nat} {s0 : Huff.HS} (hd : HDom cs us cs.length) (hc : Covers cs us) (hl : us.length = (scan cs cs.length).length) (hst : HStart (wts cs us) us.length s0) (hdep : Huff.Dep us.length (Huff.hrun us.length s0 (us.length - 1)).P D 0)
    (hfit : D.getD 0 0 ≤ (lim : Int)) (hleft : HLeft us (List.replicate cs.length 0) L' D 0) : CLen cs lim L' := by
  refine ⟨by rw [hleft.len]; simp, ?_, ?_, ?_⟩
  · intro s hs hle
    rw [hleft.off s (fun i _ hi => not_used hc hle i hi), rep_get]
  · intro h1
    have := hd.two
    omega
  · intro _
    exact ⟨us, hd, hc, hl, .inl ⟨s0, D, hst, hdep, hfit, fun i hi => hleft.at_ i (Nat.zero_le _) hi⟩⟩
theorem clen_pm {cs us L' : List Int} {lim : Nat} (hd : HDom cs us cs.length) (hc : Covers cs us) (hl : us.length = (scan cs cs.length).length) (h100 : lim ≤ 100)
    (hT : TL us (List.replicate cs.length 0) L' (fun i => PM.D us.length (wts cs us) (lim - 1) i)) : CLen cs lim L' := by
  refine ⟨by rw [hT.len]; simp, ?_, ?_, ?_⟩
  · intro s hs hle
    rw [hT.off s (not_used hc hle), rep_get]
  · intro h1
    have := hd.two
    omega
  · intro _
    exact ⟨us, hd, hc, hl, .inr ⟨h100, hT.at_⟩⟩
theorem huff_bound {cs us D : List Int} {s0 : Huff.HS} (hd : HDom cs us cs.length) (hst : HStart (wts cs us) us.length s0) (hdep : Huff.Dep us.length (Huff.hrun us.length s0 (us.length - 1)).P D 0) : D.getD 0 0 ≤ 101 :=
  Huff.dep_bound (hst.done hd.asc hd.two) hdep hd.two hd.sum (by omega) (Nat.le_refl _)
theorem cl0_after {w w2 w3 w4 : World} {cs : List Int} {ca : Option Addr} {cc : Nat} (h : CL0 w w2 cs ca cc) (hk : Keeps (fun k => k = w.heap.size + 1 ∨ w2.heap.size ≤ k) w2 w3) (hk2 : Keeps (fun k => k = w.heap.size + 1) w3 w4) (hr : Row w4 (w.heap.size + 1) 5 .u8 (List.replicate cs.length 0)) (hsz : w.heap.size + 3 ≤ w2.heap.size) : CL0 w w4 cs ca cc := by
  have k4 : Keeps (fun k => k = w.heap.size + 1 ∨ w2.heap.size ≤ k) w2 w4 := hk.trans (hk2.mono (fun k e => .inl e))
  exact ⟨k4.blk h.cv (fun e => by omega), hr, k4.blk h.lv (fun e => by omega), h.bel.trans (k4.below (fun k hk e => by omega) (by omega))⟩

/-- What stands when the levels are begun. -/
structure CLB (w wb : World) (cs us : List Int) (ca : Option Addr) (cc g gv : Nat) : Prop where
  c0 : CL0 w wb cs ca cc
  used : SRow wb g us
  var : Var wb gv 48 (.slice none 0 0)
  size : wb.heap.size = gv + 1

theorem owns_form {w : World} {B : Nat} {e : TypeId} {size n : Nat} {v : Value} {xs : List Value} (h : w.ownsRow B e size v n xs) : ∃ a c, v = .slice a n c ∧ (0 < n → ∃ g, a = some ⟨g, 0, none⟩) := by
  rcases h.2 with ⟨rfl, rfl⟩ | ⟨g, cap, cur, rfl, _⟩
  · exact ⟨none, 0, rfl, fun h => by omega⟩
  · exact ⟨_, cap, rfl, fun _ => ⟨g, rfl⟩⟩
theorem itv_head (n : Nat) (C : Nat → Int) (us : List Int) (l t : Nat) : (itv n C us l t).getD 0 0 = PM.wt n C l t := by
  unfold itv
  by_cases h : PM.leafAt n C l t = true
  · rw [if_pos h, PM.wt_leaf h]; rfl
  · rw [if_neg h, PM.wt_pack (by simpa using h)]; rfl
/-- A level's item read: its weight. -/
theorem wt_cell {w : World} {n : Nat} {C : Nat → Int} {us : List Int} {B l g c : Nat} (h : w.ownsRow B 51 4 (.slice (some ⟨g, 0, none⟩) (PM.len n C l) c) (PM.len n C l) (itrow n C us l (PM.len n C l))) {t : Nat} (ht : t < PM.len n C l) :
    w.cell? ⟨g, t * 4, none⟩ = some (.int .i64 (PM.wt n C l t)) := by
  have h1 := itrow_at n C us l (PM.len n C l) t ht 0 (by omega)
  rw [itv_head, Nat.add_zero] at h1
  exact owns_cell h h1
theorem wt_bounds {cs us : List Int} (hd : HDom cs us cs.length) {l t : Nat} (hl : l ≤ 100) (ht : t < PM.len us.length (wts cs us) l) : 1 ≤ PM.wt us.length (wts cs us) l t ∧ PM.wt us.length (wts cs us) l t ≤ 113715890591105024 := by
  have h1 := PM.wt_pos (n := us.length) (C := wts cs us) hd.pos l t ht
  have h2 := PM.wt_le (n := us.length) (C := wts cs us) hd.pos l ht
  have h3 : Huff.sumF (wts cs us) us.length ≤ 1125899906842624 := hd.sum
  refine ⟨h1, Int.le_trans h2 ?_⟩
  have h4 : ((l : Int) + 1) * Huff.sumF (wts cs us) us.length ≤ ((l : Int) + 1) * 1125899906842624 := Int.mul_le_mul_of_nonneg_left h3 (by omega)
  omega

/-- The packages so far. -/
structure PkSt (wr wx : World) (n : Nat) (C : Nat → Int) (l k : Nat) (v : Value) : Prop where
  own : wx.ownsRow wr.heap.size 51 4 v k (pkrow n C l k)
  bel : Below wr.heap.size wr wx
theorem PkSt.start (wr : World) (n : Nat) (C : Nat → Int) (l : Nat) : PkSt wr wr n C l 0 (.slice none 0 0) := ⟨World.ownsRow_nil _ _ _ _, Below.refl _ _⟩

theorem PkSt.push {wr wx w1 : World} {o : Obj} {n : Nat} {C : Nat → Int} {l k i g cap : Nat} {x y : Int} {v : Value} (h : PkSt wr wx n C (l + 1) k v) (hi : i = 2 * k) (hx : x = PM.wt n C l i) (hy : y = PM.wt n C l (i + 1))
    (ho : w1.ownsRow wr.heap.size 51 4 (.slice (some ⟨g, 0, none⟩) (k + 1) cap) (k + 1) (pkrow n C (l + 1) k ++ [.int .i64 (x + y), .int .i64 (-1), .int .i64 i, .int .i64 ((i : Int) + 1)])) (hg : ((wx.alloc o).drew).grownBy w1 v.ownBlock) :
    PkSt wr w1 n C (l + 1) (k + 1) (.slice (some ⟨g, 0, none⟩) (k + 1) cap) := by
  have hB : wr.heap.size ≤ wx.heap.size := h.bel.size
  refine ⟨?_, ?_⟩
  · have e : pkrow n C (l + 1) (k + 1) = pkrow n C (l + 1) k ++ [.int .i64 (x + y), .int .i64 (-1), .int .i64 i, .int .i64 ((i : Int) + 1)] := by
      simp only [pkrow, pkv, List.map_cons, List.map_nil]
      rw [PM.Qf_succ, hx, hy, hi]
      simp
    rw [e]
    exact ho
  · have hg' : wx.grownBy w1 v.ownBlock := grown_of_alloc (o := o) ⟨hg.os, hg.tape, hg.output, hg.size, hg.block⟩
    exact h.bel.grown hg' hB (fun k hk => (owns_lt h.own k hk).1)

/-- The merge so far. -/
structure MgSt (wj wx : World) (n : Nat) (C : Nat → Int) (us : List Int) (l m : Nat) (lv pv : Value) : Prop where
  own : wx.ownsRow wj.heap.size 51 4 lv m (itrow n C us l m)
  pk : wx.ownsRow wj.heap.size 51 4 pv (PM.np n C l) (pkrow n C l (PM.np n C l))
  bel : Below wj.heap.size wj wx
  part : Parted lv pv
theorem MgSt.start {wj wx : World} {n : Nat} {C : Nat → Int} (us : List Int) {l N : Nat} {pv : Value} (h : PkSt wj wx n C l (PM.np n C l) pv) (hN : N ≤ 1048576) : MgSt wj (wx.alloc (.cells (mrow N) 51)) n C us l 0 (.slice (some ⟨wx.heap.size, 0, none⟩) 0 N) pv := by
  refine ⟨owns_made h.bel.size hN, owns_heap h.own (fun g hg => Below.heap_alloc _ _ _ (owns_lt h.own g hg).2), h.bel.alloc h.bel.size _, ?_⟩
  intro g hg e
  have := (owns_lt h.own g e).2
  simp [Value.ownBlock] at hg
  omega
theorem MgSt.drewN {wj wx : World} {n : Nat} {C : Nat → Int} {us : List Int} {l m : Nat} {lv pv : Value} (h : MgSt wj wx n C us l m lv pv) (q : Nat) : MgSt wj (wx.drewN q) n C us l m lv pv :=
  ⟨owns_heap h.own (fun _ _ => rfl), owns_heap h.pk (fun _ _ => rfl), h.bel.trans ⟨rfl, rfl, rfl, Nat.le_refl _, fun _ _ => rfl⟩, h.part⟩
theorem MgSt.push {wj wx w1 : World} {n : Nat} {C : Nat → Int} {us : List Int} {l m g cap : Nat} {lv pv : Value} {news : List Value} (h : MgSt wj wx n C us l m lv pv) (hn : news = (itv n C us l m).map (Value.int .i64))
    (ho : w1.ownsRow wj.heap.size 51 4 (.slice (some ⟨g, 0, none⟩) (m + 1) cap) (m + 1) (itrow n C us l m ++ news)) (hg : wx.grownBy w1 lv.ownBlock) (hat : lv.ownBlock = some g ∨ g = wx.heap.size + 1) :
    MgSt wj w1 n C us l (m + 1) (.slice (some ⟨g, 0, none⟩) (m + 1) cap) pv := by
  refine ⟨?_, ?_, ?_, ?_⟩
  · subst hn; exact ho
  · refine owns_heap h.pk (fun k hk => hg.block k (owns_lt h.pk k hk).2 (fun e => h.part k e.symm hk))
  · exact h.bel.grown hg h.bel.size (fun k hk => (owns_lt h.own k hk).1)
  · intro k hk e
    simp [Value.ownBlock] at hk
    subst hk
    rcases hat with h1 | h1
    · exact h.part _ h1 e
    · have := (owns_lt h.pk _ e).2
      omega
theorem grown_strip {w w1 : World} {o : Obj} {row : Option Nat} (hg : ((w.alloc o).drew).grownBy w1 row) : w.grownBy w1 row := grown_of_alloc (o := o) ⟨hg.os, hg.tape, hg.output, hg.size, hg.block⟩

/-- What the merge reads of old blocks. -/
structure Old (wx w : World) (cs us : List Int) (cb co cc g : Nat) : Prop where
  cv : Var wx w.heap.size 22 (.slice (some ⟨cb, co, none⟩) cs.length cc)
  used : SRow wx g us
  rd : Reads wx .i64 (some ⟨cb, co, none⟩) cs
theorem Old.of {w wb wj wx : World} {cs us : List Int} {cb co cc g gv : Nat} (h : CLB w wb cs us (some ⟨cb, co, none⟩) cc g gv) (hr : Reads w .i64 (some ⟨cb, co, none⟩) cs) (hgh : w.heap.size + 3 ≤ g)
    (hk : Keeps (fun k => k = gv ∨ gv + 1 ≤ k) wb wj) (hb : Below wj.heap.size wj wx) : Old wx w cs us cb co cc g := by
  have hg := h.used.lt
  have hgv : g ≠ gv := by
    intro e
    obtain ⟨r, hr⟩ := h.used
    have h2 := h.var
    unfold Var Blk at h2
    unfold Blk at hr
    rw [e, h2] at hr
    simp at hr
  have hsz := h.size
  have far : ∀ k, k < gv → wx.heap[k]? = wb.heap[k]? := fun k hk' => (hb.block k (by have := hk.size; omega)).trans (hk.block k (by omega) (fun e => by omega))
  refine ⟨h.c0.cv.of_heap (far _ (by omega)), ?_, ?_⟩
  · obtain ⟨r, hr⟩ := h.used
    exact ⟨r, hr.of_heap (far _ (by omega))⟩
  · intro i hi
    obtain ⟨b, off, e, hlt, hc⟩ := hr i hi
    have h1 := (h.c0.bel.cell (p := ⟨b, off + i, none⟩) hlt).trans hc
    have hb2 : b < w.heap.size := hlt
    refine ⟨b, off, e, ?_, (World.cell?_of_block (a := ⟨b, off + i, none⟩) (far b (by omega))).trans h1⟩
    have := hk.size
    have := hb.size
    omega

theorem leaf_yes {n : Nat} {C : Nat → Int} {j m a p P : Nat} (h : a = (PM.st n C j m).1 ∧ p = (PM.st n C j m).2) (hP : P = PM.np n C j) (hy : p = P ∨ (a < n ∧ C a ≤ PM.Qf n C j p)) : PM.leafAt n C j m = true := by
  unfold PM.leafAt
  rw [← h.1, ← h.2]
  exact PM.lf_true.2 (by rw [← hP]; exact hy)
theorem leaf_no {n : Nat} {C : Nat → Int} {j m a p P : Nat} (h : a = (PM.st n C j m).1 ∧ p = (PM.st n C j m).2) (hP : P = PM.np n C j) (hy : p ≠ P ∧ (a < n → PM.Qf n C j p < C a)) : PM.leafAt n C j m = false := by
  unfold PM.leafAt
  rw [← h.1, ← h.2]
  exact PM.lf_false.2 (by rw [← hP]; exact hy)
theorem pk_cells {w : World} {B n : Nat} {C : Nat → Int} {l k g c : Nat} (h : w.ownsRow B 51 4 (.slice (some ⟨g, 0, none⟩) k c) k (pkrow n C l k)) {p : Nat} (hp : p < k) :
    w.cell? ⟨g, p * 4, none⟩ = some (.int .i64 (PM.Qf n C l p)) ∧ w.cell? ⟨g, p * 4 + 1, none⟩ = some (.int .i64 (-1)) ∧ w.cell? ⟨g, p * 4 + 2, none⟩ = some (.int .i64 (2 * (p : Int))) ∧ w.cell? ⟨g, p * 4 + 3, none⟩ = some (.int .i64 (2 * (p : Int) + 1)) :=
  ⟨by have h1 := pkrow_at n C l k p hp 0 (by omega); rw [Nat.add_zero] at h1; exact owns_cell h h1, owns_cell h (pkrow_at n C l k p hp 1 (by omega)), owns_cell h (pkrow_at n C l k p hp 2 (by omega)), owns_cell h (pkrow_at n C l k p hp 3 (by omega))⟩

theorem MgSt.pkcell {wj wx : World} {n : Nat} {C : Nat → Int} {us : List Int} {l m P g c : Nat} {lv : Value} (h : MgSt wj wx n C us l m lv (.slice (some ⟨g, 0, none⟩) P c)) (hP : P = PM.np n C l) (p : Nat) (hp : p < P) :
    wx.cell? ⟨g, p * 4, none⟩ = some (.int .i64 (PM.Qf n C l p)) ∧ wx.cell? ⟨g, p * 4 + 1, none⟩ = some (.int .i64 (-1)) ∧ wx.cell? ⟨g, p * 4 + 2, none⟩ = some (.int .i64 (2 * (p : Int))) ∧ wx.cell? ⟨g, p * 4 + 3, none⟩ = some (.int .i64 (2 * (p : Int) + 1)) := by
  subst hP
  exact @pk_cells wx wj.heap.size n C l (PM.np n C l) g c h.pk p hp

theorem CLB.glt {w wb : World} {cs us : List Int} {ca : Option Addr} {cc g gv : Nat} (h : CLB w wb cs us ca cc g gv) : g < gv := by
  have hg := h.used.lt
  have hsz := h.size
  have : g ≠ gv := by
    intro e
    obtain ⟨r, hr⟩ := h.used
    have h2 := h.var
    unfold Var Blk at h2
    unfold Blk at hr
    rw [e, h2] at hr
    simp at hr
  omega

/-- What stands when the taking begins. -/
structure TPre (w w5 : World) (cs us : List Int) (gv gt lim : Nat) : Prop where
  env : TEnv w5 us.length (wts cs us) us lim cs.length gv (w.heap.size + 2) gt (w.heap.size + 1)
  row : Row w5 (w.heap.size + 1) 5 .u8 (List.replicate cs.length 0)
  bel : Below w.heap.size w w5
  big : w.heap.size + 3 ≤ w5.heap.size
theorem tenv_of {w wb we w5 : World} {cs us : List Int} {ca : Option Addr} {cc g gv gr vc gt lim : Nat} {lvs : List Value} (h : CLB w wb cs us ca cc g gv) (hgh : w.heap.size + 3 ≤ g)
    (hL : LSt wb we us.length (wts cs us) us gv (gv + 1) lim (.slice (some ⟨gr, 0, none⟩) lim vc) lvs) (hk : Keeps (fun _ => False) we w5)
    (ht : Var w5 gt 52 (.func (.func 31) #[] #[.pointer (some ⟨gv, 0, none⟩), .pointer (some ⟨w.heap.size + 2, 0, none⟩), .pointer (some ⟨gt, 0, none⟩)])) : TPre w w5 cs us gv gt lim := by
  have hgg := h.glt
  have hsz := h.size
  have k5 : Keeps (fun k => k = gv ∨ gv + 1 ≤ k) wb w5 := hL.keep.trans (hk.mono (fun k e => e.elim))
  have hrow : Row w5 (w.heap.size + 1) 5 .u8 (List.replicate cs.length 0) := k5.row h.c0.row (fun e => by omega)
  have hgr := owns_lt hL.own gr rfl
  have hnt : gt ≠ w.heap.size + 1 := by
    intro e
    unfold Var Blk at ht
    unfold Row Blk at hrow
    rw [e, hrow] at ht
    simp at ht
  refine ⟨⟨⟨gr, vc, hk.blk hL.var (fun e => e), Nat.lt_of_lt_of_le hgr.2 hk.size, by omega, ?_⟩, k5.blk h.c0.lv (fun e => by omega), ht, by omega, by omega, hnt⟩, hrow, ?_, ?_⟩
  · intro l hl
    obtain ⟨gb, bc, hlv, hown⟩ := hL.lev l hl
    have hgb := owns_lt hown gb rfl
    refine ⟨_, (cell_keeps hk hgr.2 (fun e => e)).trans (owns_cell hL.own hlv), gb, bc, rfl, Nat.lt_of_lt_of_le hgb.2 hk.size, by omega, ?_⟩
    intro t ht f hf
    exact (cell_keeps hk hgb.2 (fun e => e)).trans (owns_cell hown (itrow_at us.length (wts cs us) us l _ t ht f hf))
  · exact h.c0.bel.trans (k5.below (fun k hk e => by omega) (by omega))
  · have := k5.size
    omega

theorem keeps_new (w : World) (o : Obj) (v : Value) : Keeps (fun _ => False) w ((w.alloc o).setCell ⟨w.heap.size, 0, none⟩ v) :=
  ⟨rfl, rfl, rfl, by simp, fun k hk _ => (Below.heap_setCell _ _ _ _ (show k ≠ w.heap.size by omega)).trans (Below.heap_alloc w o k hk)⟩
theorem var_new (w : World) (e : TypeId) (z v : Value) : Var ((w.alloc (.cells #[z] e)).setCell ⟨w.heap.size, 0, none⟩ v) w.heap.size e v :=
  Var.set (Blk.alloc_new w e [z]) v
theorem tl_start {cs us : List Int} (hd : HDom cs us cs.length) (l : Nat) : TL us (List.replicate cs.length 0) (List.replicate cs.length 0) (fun a => (PM.cnt us.length (wts cs us) l 0 a : Int)) :=
  ⟨rfl, fun i hi => by rw [rep_get, PM.cnt_zero (C := wts cs us) hd.pos hd.asc l 0 i (Nat.zero_le _) (Nat.zero_le _)]; rfl, fun u _ => rfl⟩
theorem take_step {w wr : World} {cs us Ls : List Int} {gv gt lim l i : Nat} (hd : HDom cs us cs.length) (hn2 : us.length ≤ 4096) (hlim : lim ≤ 100) (hl : lim = l + 1)
    (henv : TEnv wr us.length (wts cs us) us lim cs.length gv (w.heap.size + 2) gt (w.heap.size + 1)) (hrow : Row wr (w.heap.size + 1) 5 .u8 Ls)
    (hT : TL us (List.replicate cs.length 0) Ls (fun a => (PM.cnt us.length (wts cs us) l i a : Int))) (hi : i < PM.len us.length (wts cs us) l) :
    Calls Try.prog 31 #[.int .i64 l, .int .i64 i, .pointer (some ⟨gv, 0, none⟩), .pointer (some ⟨w.heap.size + 2, 0, none⟩), .pointer (some ⟨gt, 0, none⟩)] wr
      (fun e w' => e = .returned (.tuple #[]) ∧ ∃ Ls', TL us (List.replicate cs.length 0) Ls' (fun a => (PM.cnt us.length (wts cs us) l (i + 1) a : Int)) ∧ Row w' (w.heap.size + 1) 5 .u8 Ls' ∧ Keeps (fun k => k = w.heap.size + 1) wr w') := by
  have hz : (List.replicate cs.length (0 : Int)).length = cs.length := List.length_replicate
  refine (take_all us.length (wts cs us) cs us (List.replicate cs.length 0) lim cs.length gv (w.heap.size + 2) gt (w.heap.size + 1) (by rw [hz]; exact hd) rfl hz (by omega) hn2 l (by omega) i _ Ls wr henv hrow hT hi ?_).mono ?_
  · intro a ha
    have h1 := PM.cnt_succ (n := us.length) (C := wts cs us) l i a hi
    have h2 := PM.cnt_le us.length (wts cs us) l (i + 1) a
    omega
  · rintro e w' ⟨he, Ls', h1, h2, h3⟩
    refine ⟨he, Ls', h1.congr (fun a ha => ?_), h2, h3⟩
    have h4 := PM.cnt_succ (n := us.length) (C := wts cs us) l i a hi
    omega

set_option maxRecDepth 100000 in
set_option maxHeartbeats 4000000 in
theorem codeLengths_any (cs : List Int) (ca : Option Addr) (cc lim : Nat) (w : World) (hc : Reads w .i64 ca cs) (hN : cs.length ≤ 4096) (hl1 : 1 ≤ lim) (hl2 : lim ≤ 65536)
    (hs : Hid (tot cs cs.length ≤ 1125899906842624)) (hk : Hid (2 ≤ (scan cs cs.length).length → (scan cs cs.length).length ≤ 2 ^ lim)) :
    Calls Try.prog 25 #[.slice ca cs.length cc, .int .i64 lim] w (CLPost cs lim w) := by
  have hmk := fun (w : World) => make_ints 26 5 .u8 1 Try.underlying26 Try.info5 (by decide) cs.length cs.length (Nat.le_refl _) (by omega) w
  have HC : Hid (Reads w .i64 ca cs) := hc
  clear hc
  go_enter Try.func25, Try.ntmps25
  go_upto_region 1 with fail
  go_cut [2, 5] (fun x y wx => x = .pointer (some ⟨w.heap.size, 0, none⟩) ∧ y = .pointer (some ⟨w.heap.size + 2, 0, none⟩) ∧ Hid (CL0 w wx cs ca cc ∧ wx.heap.size = w.heap.size + 3))
  case first =>
    go_wp2
    go_meet
    case rel => exact ⟨rfl, rfl, cl0_start w cs ca cc⟩
  case rest =>
    obtain ⟨rfl, rfl, H0⟩ := hcut
    clear hmk
    obtain ⟨w0, hw0⟩ : ∃ w0, w0 = wc := ⟨_, rfl⟩
    subst hw0
    obtain ⟨B, hB⟩ : ∃ B, B = w.heap.size + 3 := ⟨_, rfl⟩
    have HB : Hid (B = w.heap.size + 3) := hB
    have hsz0 : B = w0.heap.size := by rw [hB]; exact H0.out.2.symm
    clear hB
    have q1 := H0.out.1.cv.cell
    go_upto_block 0 with fail
    go_cut [6] (fun t wx => Hid (Owns wx B 3 .i64 t (scan cs cs.length) ∧ Below B w0 wx))
    case first =>
      as_aux_lemma =>
      go_wp2
      go_loopg [23, 6] cs.length (fun k t v wx => ∃ i : Nat, cs.length - i ≤ k ∧ t = .int .i64 i ∧ i ≤ cs.length ∧ Hid (Owns wx B 3 .i64 v (scan cs i) ∧ Below B w0 wx))
      case atStart => exact ⟨0, by omega, rfl, by omega, Owns.nil _ _ _ _, Below.refl _ _⟩
      case round =>
        obtain ⟨i, hk, rfl, hi, HI⟩ := hrel
        by_cases hin : i < cs.length
        · have hci : (i : Int) < (cs.length : Int) := by omega
          have hR : Reads wr .i64 ca cs := (HC.out.of_below H0.out.1.bel).of_below (HI.out.2.mono (by omega))
          obtain ⟨cb, co, rfl⟩ := hR.addr (by omega)
          have q2 := (hR.at hin).2
          obtain ⟨x, hx⟩ : ∃ x, x = cs.getD i 0 := ⟨_, rfl⟩
          rw [← hx] at q2
          have HX : Hid (x = cs.getD i 0) := hx
          clear hx hR
          by_cases hpos : 0 < x
          · have dp : decide (0 < x) = true := decide_eq_true hpos
            clear hpos
            have hBw : B ≤ wr.heap.size := by have := HI.out.2.size; omega
            have hlen : (scan cs i).length ≤ 1099511627776 := by have := scan_len cs i; omega
            have HLe : Hid ((scan cs i).length ≤ 1099511627776) := hlen
            clear hlen
            go_wp2_with (at_builtin; refine wpList_push B _ (.tmp 30) (.tmp 32) 22 3 .i64 8 Try.underlying22 Try.info3 (by decide) rfl rfl _ _ _ rfl HI.out.1 _ rfl rfl HLe.out hBw ?_; intro v1 w1 hp1 hgr1 hfr1)
            go_roundg (cs.length - (i + 1))
            case measure => omega
            case rel =>
              refine ⟨i + 1, Nat.le_refl _, by simp, by omega, ?_, ?_⟩
              · have e : scan cs (i + 1) = scan cs i ++ [(i : Int)] := by simp only [scan]; rw [if_pos (HX.out ▸ of_decide_eq_true dp)]
                rw [e]; exact hp1
              · exact HI.out.2.grown hgr1 hBw (fun k hk => (HI.out.1.lt k hk).1)
          · have dp : decide (0 < x) = false := decide_eq_false hpos
            have HP : Hid (¬ 0 < x) := hpos
            clear hpos
            go_wp2
            go_roundg (cs.length - (i + 1))
            case measure => omega
            case rel =>
              refine ⟨i + 1, Nat.le_refl _, by simp, by omega, ?_, HI.out.2⟩
              have e : scan cs (i + 1) = scan cs i := by simp only [scan]; rw [if_neg (by have h1 := HX.out; have h2 := HP.out; omega)]
              rw [e]; exact HI.out.1
        · go_wp2
          go_meet
          case rel =>
            have e : i = cs.length := by omega
            rw [e] at HI
            exact HI
    case rest =>
      have H1 := hcut
      clear hcut q1
      obtain ⟨w1, hw1⟩ : ∃ w1, w1 = wc := ⟨_, rfl⟩
      subst hw1
      obtain ⟨xs, hxs⟩ : ∃ xs, xs = scan cs cs.length := ⟨_, rfl⟩
      rw [← hxs] at H1 hk
      have HXS : Hid (xs = scan cs cs.length) := hxs
      have hxl : xs.length ≤ cs.length := by rw [hxs]; exact scan_len _ _
      clear hxs
      have H2 : Hid (CL0 w w1 cs ca cc) := H0.out.1.below (HB.out ▸ H1.out.2)
      obtain ⟨ua, uc, hu6, hR6, hB6⟩ := H1.out.1.reads
      subst hu6
      have q5 := H2.out.lv.cell
      by_cases h0 : xs.length = 0
      · rw [h0]
        go_wp2
        go_ret
        exact ⟨w.heap.size + 1, _, by simp, H2.out.row, by omega, clen_none lim (by rw [← HXS.out]; exact h0), H2.out.bel⟩
      · by_cases h1 : xs.length = 1
        · have h1' : (xs.length : Int) = 1 := by omega
          obtain ⟨ub, uo, rfl⟩ := hR6.addr (by omega)
          obtain ⟨u, hu1, hu2, hu3⟩ := scan_at cs cs.length 0 (by rw [← HXS.out]; omega)
          have q6 := (hR6.at (i := 0) (by omega)).2
          rw [← HXS.out] at hu2
          rw [hu2, Nat.add_zero] at q6
          have HU : Hid ((scan cs cs.length).getD 0 0 = (u : Int)) := by have := HXS.out; rw [← this]; exact hu2
          have i1 : (u : Int) < (cs.length : Int) := by omega
          have q7 := H2.out.row.cell (i := u) (by simp; omega)
          have q8 := H2.out.row.frozen u
          have H1' : Hid ((scan cs cs.length).length = 1) := by have := HXS.out; rw [← this]; exact h1
          clear hu2 hR6 hB6
          rw [h1]
          rw [h1] at h0 hk hxl
          go_wp2_with fail
          go_region
          all_goals go_wp2
          all_goals go_ret
          all_goals exact ⟨w.heap.size + 1, _, by simp, Row.set (w := w1.drew) H2.out.row u 1, by omega, clen_one lim H1'.out HU.out, H2.out.bel.drew.setCell (by simp) _⟩
        · obtain ⟨g, c, hv6, hSR, hBg⟩ := owns_srow H1.out.1 (by omega)
          simp only [Value.slice.injEq] at hv6
          obtain ⟨rfl, -, rfl⟩ := hv6
          clear hR6 hB6
          have e0 : ((xs.length : Int) == 0) = false := by rw [beq_eq_false_iff_ne]; omega
          have e1 : ((xs.length : Int) == 1) = false := by rw [beq_eq_false_iff_ne]; omega
          have h2 : 2 ≤ xs.length := by omega
          have hgh : w.heap.size + 3 ≤ g := by have := HB.out; omega
          have hcpos : 0 < cs.length := by omega
          obtain ⟨cb, co, rfl⟩ := HC.out.addr hcpos
          have hcb := (HC.out.at (i := 0) hcpos).1
          have henv : SEnv cs (some ⟨cb, co, none⟩) cc w.heap.size g w1 :=
            ⟨H2.out.cv, HC.out.of_below H2.out.bel, by omega, fun x hx => by cases hx; dsimp only; omega⟩
          have hok : AllOk cs xs := by rw [HXS.out]; exact allOk_scan hs.out
          have HE : Hid (SEnv cs (some ⟨cb, co, none⟩) cc w.heap.size g w1 ∧ AllOk cs xs ∧ SRow w1 g xs) := ⟨henv, hok, hSR⟩
          have hxl2 : xs.length ≤ 4096 := by omega
          clear henv hok hSR h0 h1
          go_wp2_with fail
          refine (sort_any cs _ cc w.heap.size g xs.length uc xs w1 HE.out.2.2 HE.out.1 HE.out.2.1 rfl hxl2).mono ?_
          rintro e w2 ⟨rfl, us, hd1, hs1, hr1, hk1⟩
          have hlen := hd1.len
          have HD : Hid (HDom cs us cs.length ∧ Covers cs us ∧ us.length = (scan cs cs.length).length) := by
            have e := HXS.out
            rw [e] at hd1 hlen hs1 h2
            exact ⟨hdom_of hd1 (by rw [hlen]; exact hs1) (by rw [hlen]; exact h2) hs.out, covers_of hd1, hlen⟩
          have hkB : Below (w.heap.size + 3) w1 w2 := hk1.below (fun k h1 h2 => by omega) (by have := HE.out.2.2.lt; omega)
          have H3 : Hid (CL0 w w2 cs (some ⟨cb, co, none⟩) cc ∧ SRow w2 g us) := ⟨H2.out.below hkB, hr1⟩
          rw [← hlen]
          rw [← hlen] at h2 hxl2 hxl e0 e1
          clear hd1 hs1 hr1 hlen HE H2 H1 q5 hkB
          have q1 := H3.out.1.cv.cell
          have q2 := H3.out.1.lv.cell
          have hN' : (List.replicate cs.length (0 : Int)).length = cs.length := List.length_replicate
          have hcall := huffman_run cs us (List.replicate cs.length 0) (some ⟨cb, co, none⟩) (some ⟨g, 0, none⟩) cc uc cs.length (w.heap.size + 1) w2 (HC.out.of_below H3.out.1.bel) H3.out.2.reads H3.out.1.row
            (fun x hx => by cases hx; dsimp only; omega) (fun x hx => by cases hx; dsimp only; omega) (by rw [hN']; exact HD.out.1) hxl2
          rw [hN'] at hcall
          have HCALL := hcall
          clear hcall hN'
          go_wp2_with fail
          refine HCALL.mono ?_
          rintro e w3 ⟨s0, D, L', hst, hdep, rfl, hrow, hleft, hkeep⟩
          clear HCALL
          obtain ⟨d0, hd0⟩ : ∃ d0, d0 = D.getD 0 0 := ⟨_, rfl⟩
          rw [← hd0]
          have HD0 : Hid (d0 = D.getD 0 0) := hd0
          have HH : Hid (HStart (wts cs us) us.length s0 ∧ Huff.Dep us.length (Huff.hrun us.length s0 (us.length - 1)).P D 0 ∧ HLeft us (List.replicate cs.length 0) L' D 0) := ⟨hst, hdep, hleft⟩
          have HRW : Hid (Row w3 (w.heap.size + 1) 5 .u8 L') := hrow
          have HK3 : Hid (Keeps (fun k => k = w.heap.size + 1 ∨ w2.heap.size ≤ k) w2 w3) := hkeep
          have hsz2 : w.heap.size + 3 ≤ w2.heap.size := by have := H3.out.2.lt; omega
          have q3 : w3.cell? ⟨w.heap.size + 2, 0, none⟩ = some (.slice (some ⟨w.heap.size + 1, 0, none⟩) cs.length cs.length) := Var.cell (HK3.out.blk H3.out.1.lv (fun h => by omega))
          clear hd0 hst hdep hleft hrow hkeep q1 q2
          by_cases hfit : d0 ≤ (lim : Int)
          · have df : decide (d0 ≤ (lim : Int)) = true := decide_eq_true hfit
            have HF : Hid (d0 ≤ (lim : Int)) := hfit
            clear hfit
            go_wp2
            go_ret
            refine ⟨w.heap.size + 1, L', by simp, HRW.out, by omega, clen_huff HD.out.1 HD.out.2.1 HD.out.2.2 HH.out.1 HH.out.2.1 (by rw [← HD0.out]; exact HF.out) HH.out.2.2, ?_⟩
            exact H3.out.1.bel.trans (HK3.out.below (fun k hk e => by omega) (by omega))
          · have df : decide (d0 ≤ (lim : Int)) = false := decide_eq_false hfit
            have hl3 : lim ≤ 100 := by have := huff_bound HD.out.1 HH.out.1 HH.out.2.1; have := HD0.out; omega
            have hL' : L'.length = cs.length := by rw [HH.out.2.2.len]; simp
            clear hfit
            obtain ⟨w4, hclr, hr4, hk4, hs4⟩ := run_clear w3 (w.heap.size + 1) cs.length cs.length L' HRW.out hL' hcpos
            have H4 : Hid (CL0 w w4 cs (some ⟨cb, co, none⟩) cc ∧ SRow w4 g us ∧ w.heap.size + 3 ≤ w4.heap.size) := by
              have k4 : Keeps (fun k => k = w.heap.size + 1 ∨ w2.heap.size ≤ k) w2 w4 := HK3.out.trans (hk4.mono (fun k e => .inl e))
              obtain ⟨r, hr⟩ := H3.out.2
              have hgl := hr.lt
              exact ⟨cl0_after H3.out.1 HK3.out hk4 hr4 hsz2, ⟨r, k4.blk hr (fun e => by omega)⟩, by have := k4.size; omega⟩
            clear hr4 hk4 hs4
            go_upto_region 20 with fail
            go_cut [9, 59, 60] (fun x y z wx => ∃ gv, x = .pointer (some ⟨gv, 0, none⟩) ∧ y = .int .i64 lim ∧ z = .int .i64 0 ∧ Hid (CLB w wx cs us (some ⟨cb, co, none⟩) cc g gv))
            case first =>
              go_wp2
              go_meet
              case rel =>
                obtain ⟨r, hr⟩ := H4.out.2.1
                exact ⟨w4.heap.size, rfl, rfl, rfl, H4.out.1.below (((Below.refl _ _).alloc (Nat.le_refl _) _).mono H4.out.2.2), ⟨r, hr.alloc _⟩, Blk.alloc_new w4 48 [.slice none 0 0], by simp⟩
            case rest =>
              obtain ⟨gv, rfl, rfl, rfl, HCB⟩ := hcut
              obtain ⟨wb, hwb⟩ : ∃ wb, wb = wc := ⟨_, rfl⟩
              subst hwb
              clear H4 hclr hL' df q3 HRW HK3 H3 HH HD0 hsz2 hk1
              go_upto_block 3 with fail
              go_cut [] (fun wx => ∃ v lvs, Hid (LSt wb wx us.length (wts cs us) us gv (gv + 1) lim v lvs))
              case first =>
                as_aux_lemma =>
                go_wp2
                go_loopg [60] lim (fun k t wx => ∃ (j : Nat) (v : Value) (lvs : List Value), lim - j ≤ k ∧ t = .int .i64 j ∧ j ≤ lim ∧ Hid (LSt wb wx us.length (wts cs us) us gv (gv + 1) j v lvs))
                case atStart => exact ⟨0, _, _, by omega, rfl, by omega, LSt.start wb _ _ _ HCB.out.var⟩
                case round =>
                  obtain ⟨j, v, lvs, hkk, rfl, hj, HLS⟩ := hrel
                  obtain ⟨wj, hwj⟩ : ∃ wj, wj = wr := ⟨_, rfl⟩
                  subst hwj
                  by_cases hjl : j < lim
                  · have hji : (j : Int) < (lim : Int) := by omega
                    have q1 := HLS.out.var.cell
                    obtain ⟨va, vc, hvf, hvn⟩ := owns_form HLS.out.own
                    subst hvf
                    go_upto_if 64 with fail
                    go_cut [10] (fun pv wx => Hid (PkSt wj wx us.length (wts cs us) j (PM.np us.length (wts cs us) j) pv))
                    case first =>
                      as_aux_lemma =>
                      cases j with
                      | zero =>
                        go_wp2
                        go_meet
                        case rel => exact PkSt.start wj _ _ _
                      | succ l =>
                        obtain ⟨gr, rfl⟩ := hvn (by omega)
                        obtain ⟨gb, bc, hlv, hown⟩ := HLS.out.lev l (by omega)
                        have q2 := owns_cell HLS.out.own hlv
                        have hlen := PM.len_le (wts cs us) (show 1 ≤ us.length by omega) l
                        have HWT : Hid (wj.ownsRow (gv + 1) 51 4 (.slice (some ⟨gb, 0, none⟩) (PM.len us.length (wts cs us) l) bc) (PM.len us.length (wts cs us) l) (itrow us.length (wts cs us) us l (PM.len us.length (wts cs us) l))) := hown
                        have hgb := (owns_lt hown gb rfl).2
                        obtain ⟨m, hm⟩ : ∃ m, m = PM.len us.length (wts cs us) l := ⟨_, rfl⟩
                        have HM : Hid (m = PM.len us.length (wts cs us) l) := hm
                        rw [← hm] at q2 hlen
                        clear hm hlv hown hvn
                        have hm2 : m ≤ 8192 := by omega
                        clear hlen
                        go_upto_block 5 with fail
                        go_wp2
                        go_loopg [12, 10] m (fun k t pv wx => ∃ (p i : Nat), m - i ≤ k ∧ t = .int .i64 i ∧ i ≤ m + 1 ∧ Hid (i = 2 * p ∧ i ≤ m ∧ PkSt wj wx us.length (wts cs us) (l + 1) p pv))
                        case atStart => exact ⟨0, 0, by omega, rfl, by omega, rfl, by omega, PkSt.start wj _ _ _⟩
                        case round =>
                          obtain ⟨p, i, hkk2, rfl, hi, HP⟩ := hrel
                          by_cases hlt : i + 1 < m
                          · have hpv := HP.out.2.2
                            have hB2 := hpv.bel.size
                            have b1 := wt_bounds HD.out.1 (l := l) (t := i) (by omega) (by have := HM.out; omega)
                            have b2 := wt_bounds HD.out.1 (l := l) (t := i + 1) (by omega) (by have := HM.out; omega)
                            have c1 : wr.cell? ⟨gb, i * 4, none⟩ = some (.int .i64 (PM.wt us.length (wts cs us) l i)) := (hpv.bel.cell (p := ⟨gb, i * 4, none⟩) hgb).trans (wt_cell HWT.out (by have := HM.out; omega))
                            have c2 : wr.cell? ⟨gb, (i + 1) * 4, none⟩ = some (.int .i64 (PM.wt us.length (wts cs us) l (i + 1))) := (hpv.bel.cell (p := ⟨gb, (i + 1) * 4, none⟩) hgb).trans (wt_cell HWT.out (by have := HM.out; omega))
                            obtain ⟨x, hx⟩ : ∃ x, x = PM.wt us.length (wts cs us) l i := ⟨_, rfl⟩
                            obtain ⟨y, hy⟩ : ∃ y, y = PM.wt us.length (wts cs us) l (i + 1) := ⟨_, rfl⟩
                            rw [← hx] at b1 c1
                            rw [← hy] at b2 c2
                            have HXY : Hid (x = PM.wt us.length (wts cs us) l i ∧ y = PM.wt us.length (wts cs us) l (i + 1)) := ⟨hx, hy⟩
                            have hne : u10.ownBlock ≠ some gb := fun e => by have := (owns_lt hpv.own gb e).1; omega
                            have hp2 : p ≤ 8192 := by have := HP.out.1; omega
                            have i1 : (i : Int) + 1 < (m : Int) := by omega
                            have i2 : (i : Int) < (m : Int) := by omega
                            have i3 : (0 : Int) ≤ (i : Int) + 1 := by omega
                            have i4 : (0 : Int) ≤ (i : Int) := by omega
                            have i5 : ((i : Int) + 1).toNat = i + 1 := by omega
                            obtain ⟨b11, b12⟩ := b1
                            obtain ⟨b21, b22⟩ := b2
                            have lg := World.block_lt_of_cell? wr _ c1
                            obtain ⟨i0, hi0, hz0, hz1, hz2⟩ := info_parts Try.info51
                            clear hx hy hpv
                            go_wp2_with fail
                            have iw1 : IntKind.i64.wrap ((i : Int) + 1) = (i : Int) + 1 := by rw [IntKind.wrap_i64]; omega
                            have iw2 : IntKind.i64.wrap (x + y) = x + y := by rw [IntKind.wrap_i64]; omega
                            go_region_held3 (fun w' => w'.cell? ⟨gb, i * 4, none⟩ = some (.int .i64 x) ∧ w'.cell? ⟨gb, (i + 1) * 4, none⟩ = some (.int .i64 y))
                              (first
                                | go_keep
                                | (go_split_ands
                                   refine ⟨?_, ?_⟩
                                   · (rw [hgrow.cell_far _ (by simp; omega) (Ne.symm hne)]; assumption)
                                   · (rw [hgrow.cell_far _ (by simp; omega) (Ne.symm hne)]; assumption)))
                              ((refine step_append_lies _ (by rfl) _ _ _ (by rfl) wj.heap.size 51 i0 _ 4 32 Try.underlying49 hi0 hz0 hz1 hz2 rfl (by omega) u10 p (pkrow us.length (wts cs us) (l + 1) p) (by rfl) ((HP.out.2.2.own.alloc _).drew)
                                  ⟨wr.heap.size, 0, none⟩ 1 1 [.int .i64 (x + y), .int .i64 (-1), .int .i64 i, .int .i64 ((i : Int) + 1)] (by rfl) (by rfl) (World.news_of_block (cs := #[.int .i64 (x + y), .int .i64 (-1), .int .i64 i, .int .i64 ((i : Int) + 1)]) (t := 51) (fr := (0, 0)) (heap_alloc_new wr _)) (by simp [Value.oneCell'])
                                  (by omega) (by unfold maxLen; omega) (by omega) (by simp; omega) (wr.heap.size + 1) (by simp) ?_; intro gg cap w5 hown1 hgrow hat hlt5))
                            go_wp2
                            go_roundg (m - (i + 2))
                            case measure => omega
                            case rel => exact ⟨p + 1, i + 2, Nat.le_refl _, by simp, by omega, by have := HP.out.1; omega, by omega, PkSt.push HP.out.2.2 HP.out.1 HXY.out.1 HXY.out.2 hown1 hgrow⟩
                          · go_wp2
                            go_meet
                            case rel =>
                              have e : PM.np us.length (wts cs us) (l + 1) = p := by rw [PM.np_succ]; have h1 := HM.out; have h2 := HP.out.1; have h3 := HP.out.2.1; omega
                              rw [e]
                              exact HP.out.2.2
                    case rest =>
                      obtain ⟨w5, hw5⟩ : ∃ w5, w5 = wc := ⟨_, rfl⟩
                      subst hw5
                      obtain ⟨pa, pc, hpf, hpn⟩ := owns_form hcut.out.own
                      subst hpf
                      have HPK := hcut
                      clear hcut
                      have hnp : PM.np us.length (wts cs us) j ≤ 4096 := by
                        have h1 := PM.len_le (wts cs us) (show 1 ≤ us.length by omega) j
                        have h2 : PM.len us.length (wts cs us) j = us.length + PM.np us.length (wts cs us) j := rfl
                        omega
                      obtain ⟨P, hP⟩ : ∃ P, P = PM.np us.length (wts cs us) j := ⟨_, rfl⟩
                      have HPn : Hid (P = PM.np us.length (wts cs us) j) := hP
                      rw [← hP] at hnp hpn ⊢
                      clear hP
                      have hmk : ∀ w : World, (Instr.makeSlice 49 (.int .i64 0) (.int .i64 ((us.length : Int) + (P : Int)))).run Try.prog w = .ok (.slice (some ⟨w.heap.size, 0, none⟩) 0 (us.length + P)) (w.alloc (.cells (mrow (us.length + P)) 51)) := fun w => by
                        have h := make_items (us.length + P) (by omega) w
                        rw [Int.natCast_add] at h
                        exact h
                      have HPK' : Hid (PkSt wj w5 us.length (wts cs us) j (PM.np us.length (wts cs us) j) (.slice pa P pc)) := by have h1 := HPn.out; have h2 := HPK.out; rw [← h1] at h2 ⊢; exact h2
                      obtain ⟨M, hM⟩ : ∃ M, M = us.length + P := ⟨_, rfl⟩
                      have HMl : Hid (M = PM.len us.length (wts cs us) j) := by have h1 := HPn.out; rw [hM, h1]; rfl
                      have HMM : Hid (M = us.length + P) := hM
                      have hM2 : M ≤ 8192 := by omega
                      clear HPK q1 hvn hM
                      go_upto_block 7 with fail
                      go_cut [13] (fun lv wx => ∃ g' c', lv = .slice (some ⟨g', 0, none⟩) M c' ∧ Hid (MgSt wj wx us.length (wts cs us) us j M lv (.slice pa P pc)))
                      case first =>
                        as_aux_lemma =>
                        go_wp2
                        go_loopg [13, 14, 15] M (fun k lv t s wx => ∃ (m a p : Nat), M - m ≤ k ∧ t = .int .i64 a ∧ s = .int .i64 p ∧ a ≤ us.length ∧ p ≤ P ∧ Hid (m = a + p) ∧ Hid (a = (PM.st us.length (wts cs us) j m).1 ∧ p = (PM.st us.length (wts cs us) j m).2 ∧ MgSt wj wx us.length (wts cs us) us j m lv (.slice pa P pc)))
                        case atStart => exact ⟨0, 0, 0, by omega, rfl, rfl, by omega, by omega, rfl, ⟨rfl, rfl, MgSt.start us HPK'.out (by have := HMM.out; omega)⟩⟩
                        case round =>
                          obtain ⟨m, a, p, hkm, rfl, rfl, ha, hp, hmap, HMG⟩ := hrel
                          by_cases hm : m < M
                          · obtain ⟨wm, hwm⟩ : ∃ wm, wm = wr := ⟨_, rfl⟩
                            subst hwm
                            have HOLD : Hid (Old wm w cs us cb co cc g) := Old.of HCB.out HC.out hgh HLS.out.keep HMG.out.2.2.bel
                            go_upto_region 31 with fail
                            go_cut [112] (fun x wx => wm = wx ∧ x = .bool true)
                            case first =>
                              as_aux_lemma =>
                              by_cases ha2 : a < us.length
                              · have d1 : decide ((a : Int) < (us.length : Int)) = true := decide_eq_true (by omega)
                                go_wp2
                                go_meet
                                case rel => exact ⟨rfl, rfl⟩
                              · have d1 : decide ((a : Int) < (us.length : Int)) = false := decide_eq_false (by omega)
                                have hpP3 : p < P := by have h1 := hmap.out; have h2 := HMM.out; omega
                                have d2 : decide ((p : Int) < (P : Int)) = true := decide_eq_true (by omega)
                                go_wp2
                                go_meet
                                case rel => exact ⟨rfl, by simp⟩
                            case rest =>
                              obtain ⟨hwx, rfl⟩ := hcut
                              have h' := hwx.symm
                              subst h'
                              go_upto_region 32 with fail
                              go_cut [137] (fun x wx => x = .bool (PM.leafAt us.length (wts cs us) j m) ∧ Hid (MgSt wj wx us.length (wts cs us) us j m u13 (.slice pa P pc)))
                              case first =>
                                as_aux_lemma =>
                                have HAP : Hid (a = (PM.st us.length (wts cs us) j m).1 ∧ p = (PM.st us.length (wts cs us) j m).2) := ⟨HMG.out.1, HMG.out.2.1⟩
                                by_cases hpP : p = P
                                · have d1 : ((p : Int) == (P : Int)) = true := beq_iff_eq.2 (by omega)
                                  have hy := leaf_yes HAP.out HPn.out (.inl hpP)
                                  have HY : Hid (PM.leafAt us.length (wts cs us) j m = true) := hy
                                  clear hy hpP
                                  go_quiet (fail)
                                  go_wp2
                                  go_meet
                                  case rel => exact ⟨by rw [HY.out], HMG.out.2.2.drewN _⟩
                                · have d1 : ((p : Int) == (P : Int)) = false := beq_eq_false_iff_ne.2 (by omega)
                                  by_cases ha2 : a < us.length
                                  · have d2 : decide ((a : Int) < (us.length : Int)) = true := decide_eq_true (by omega)
                                    obtain ⟨u, hu1, hu2, hu3, hu4⟩ := idx_nat HD.out.1 ha2
                                    obtain ⟨pg, rfl⟩ := hpn (by omega)
                                    have c1 := HOLD.out.cv.cell
                                    have c2 := HOLD.out.used.cell ha2
                                    rw [hu1] at c2
                                    have c3 := (HOLD.out.rd.at (i := u) hu2).2
                                    rw [← hu4] at c3
                                    have hpP2 : p < P := by omega
                                    obtain ⟨c4, -⟩ := HMG.out.2.2.pkcell HPn.out p hpP2
                                    have i1 : (a : Int) < (us.length : Int) := by omega
                                    have i2 : (u : Int) < (cs.length : Int) := by omega
                                    have i3 : (p : Int) < (P : Int) := by omega
                                    obtain ⟨x, hx⟩ : ∃ x, x = wts cs us a := ⟨_, rfl⟩
                                    obtain ⟨q, hq⟩ : ∃ q, q = PM.Qf us.length (wts cs us) j p := ⟨_, rfl⟩
                                    have HXQ : Hid (x = wts cs us a ∧ q = PM.Qf us.length (wts cs us) j p) := ⟨hx, hq⟩
                                    have HNE : Hid (p ≠ P ∧ a < us.length) := ⟨hpP, ha2⟩
                                    rw [← hx] at c3
                                    rw [← hq] at c4
                                    clear hx hq hu1 hu4 hpP ha2
                                    by_cases hxq : x ≤ q
                                    · have d3 : decide (x ≤ q) = true := decide_eq_true hxq
                                      have hy := leaf_yes HAP.out HPn.out (.inr ⟨HNE.out.2, by have h := HXQ.out; rw [h.1, h.2] at hxq; exact hxq⟩)
                                      have HY : Hid (PM.leafAt us.length (wts cs us) j m = true) := hy
                                      clear hy hxq
                                      go_quiet (fail)
                                      go_wp2
                                      go_meet
                                      case rel => exact ⟨by rw [HY.out], HMG.out.2.2.drewN _⟩
                                    · have d3 : decide (x ≤ q) = false := decide_eq_false hxq
                                      have hy := leaf_no HAP.out HPn.out ⟨HNE.out.1, fun _ => by have h := HXQ.out; rw [h.1, h.2] at hxq; omega⟩
                                      have HY : Hid (PM.leafAt us.length (wts cs us) j m = false) := hy
                                      clear hy hxq
                                      go_quiet (fail)
                                      go_wp2
                                      go_meet
                                      case rel => exact ⟨by rw [HY.out], HMG.out.2.2.drewN _⟩
                                  · have d2 : decide (a < us.length) = false := decide_eq_false ha2
                                    have hy := leaf_no HAP.out HPn.out ⟨hpP, fun h => absurd h ha2⟩
                                    have HY : Hid (PM.leafAt us.length (wts cs us) j m = false) := hy
                                    clear hy hpP ha2
                                    go_quiet (fail)
                                    go_wp2
                                    go_meet
                                    case rel => exact ⟨by rw [HY.out], HMG.out.2.2.drewN _⟩
                              case rest =>
                                obtain ⟨hx137, HMG2⟩ := hcut
                                subst hx137
                                obtain ⟨wl, hwl⟩ : ∃ wl, wl = wc := ⟨_, rfl⟩
                                subst hwl
                                have HOLD2 : Hid (Old wl w cs us cb co cc g) := Old.of HCB.out HC.out hgh HLS.out.keep HMG2.out.bel
                                have hszj : gv + 1 ≤ wj.heap.size := by have h1 := HLS.out.keep.size; have h2 := HCB.out.size; omega
                                have hggv : g < gv := HCB.out.glt
                                have hbl : wj.heap.size ≤ wl.heap.size := HMG2.out.bel.size
                                have hmM : m < PM.len us.length (wts cs us) j := by rw [← HMl.out]; exact hm
                                have HmM : Hid (m < PM.len us.length (wts cs us) j) := hmM
                                have hm2 : m ≤ 8192 := by omega
                                have hown : ∀ k, u13.ownBlock = some k → wj.heap.size ≤ k := fun k hk => (owns_lt HMG2.out.own k hk).1
                                have n1 : u13.ownBlock ≠ some w.heap.size := fun e => by have := hown _ e; omega
                                have n2 : u13.ownBlock ≠ some g := fun e => by have := hown _ e; omega
                                have n3 : u13.ownBlock ≠ some cb := fun e => by have := hown _ e; omega
                                obtain ⟨i0, hi0, hz0, hz1, hz2⟩ := info_parts Try.info51
                                clear HOLD hmM hown
                                by_cases hleaf : PM.leafAt us.length (wts cs us) j m = true
                                · have HLf : Hid (PM.leafAt us.length (wts cs us) j m = true) := hleaf
                                  rw [hleaf]
                                  have ha2 : a < us.length := by rw [HMG.out.1]; exact PM.leaf_lt HmM.out hleaf
                                  clear hleaf
                                  obtain ⟨u, hu1, hu2, hu3, hu4⟩ := idx_nat HD.out.1 ha2
                                  have c1 := HOLD2.out.cv.cell
                                  have c2 := HOLD2.out.used.cell ha2
                                  rw [hu1] at c2
                                  have c3 := (HOLD2.out.rd.at (i := u) hu2).2
                                  rw [← hu4] at c3
                                  have i1 : (a : Int) < (us.length : Int) := by omega
                                  have i2 : (u : Int) < (cs.length : Int) := by omega
                                  obtain ⟨x, hx⟩ : ∃ x, x = wts cs us a := ⟨_, rfl⟩
                                  rw [← hx] at c3
                                  have HXU : Hid (x = wts cs us a ∧ us.getD a 0 = (u : Int)) := ⟨hx, hu1⟩
                                  have lg1 := World.block_lt_of_cell? wl _ c1
                                  have lg2 := World.block_lt_of_cell? wl _ c2
                                  have lg3 := World.block_lt_of_cell? wl _ c3
                                  have i3 : (0 : Int) ≤ (a : Int) := by omega
                                  have i4 : (0 : Int) ≤ (u : Int) := by omega
                                  clear hx hu1 hu4 hu3
                                  go_wp2_with fail
                                  go_region_held3 (fun w' => w'.cell? ⟨w.heap.size, 0, none⟩ = some (.slice (some ⟨cb, co, none⟩) cs.length cc) ∧ w'.cell? ⟨g, a, none⟩ = some (.int .i64 u) ∧ w'.cell? ⟨cb, co + u, none⟩ = some (.int .i64 x))
                                    (first
                                      | go_keep
                                      | (go_split_ands
                                         refine ⟨?_, ?_, ?_⟩
                                         · (rw [hgrow.cell_far _ (by simp; omega) (Ne.symm n1)]; assumption)
                                         · (rw [hgrow.cell_far _ (by simp; omega) (Ne.symm n2)]; assumption)
                                         · (rw [hgrow.cell_far _ (by simp; omega) (Ne.symm n3)]; assumption)))
                                    ((refine step_append_lies _ (by rfl) _ _ _ (by rfl) wj.heap.size 51 i0 _ 4 32 Try.underlying49 hi0 hz0 hz1 hz2 rfl (by omega) u13 m (itrow us.length (wts cs us) us j m) (by rfl) ((HMG2.out.own.alloc _).drew)
                                        ⟨wl.heap.size, 0, none⟩ 1 1 [.int .i64 x, .int .i64 u, .int .i64 0, .int .i64 0] (by rfl) (by rfl) (World.news_of_block (cs := #[.int .i64 x, .int .i64 u, .int .i64 0, .int .i64 0]) (t := 51) (fr := (0, 0)) (heap_alloc_new wl _)) (by simp [Value.oneCell'])
                                        (by omega) (by unfold maxLen; omega) (by omega) (by simp; omega) (wl.heap.size + 1) (by simp) ?_; intro gg cap w6 hown1 hgrow hat hlt5))
                                  go_wp2
                                  go_roundg (M - (m + 1))
                                  case measure => omega
                                  case rel =>
                                    have hst := PM.st_leaf HLf.out
                                    refine ⟨m + 1, a + 1, p, Nat.le_refl _, by simp, rfl, by omega, hp, by have := hmap.out; show m + 1 = a + 1 + p; omega, ?_, ?_, MgSt.push HMG2.out ?_ hown1 (grown_strip hgrow) hat⟩
                                    · rw [hst]; show a + 1 = _ + 1; rw [← HMG.out.1]
                                    · rw [hst]; show p = _; exact HMG.out.2.1
                                    · have e1 := HMG.out.1
                                      unfold itv
                                      rw [if_pos HLf.out, ← e1, ← HXU.out.1, HXU.out.2]
                                      rfl
                                · have hleaf' : PM.leafAt us.length (wts cs us) j m = false := by simpa using hleaf
                                  have HLf : Hid (PM.leafAt us.length (wts cs us) j m = false) := hleaf'
                                  rw [hleaf']
                                  have hpP : p < P := by
                                    have h1 := (PM.lf_false.1 hleaf').1
                                    have h2 := HPn.out
                                    have h3 := HMG.out.2.1
                                    omega
                                  clear hleaf hleaf'
                                  obtain ⟨pg, rfl⟩ := hpn (by omega)
                                  obtain ⟨c1, c2, c3, c4⟩ := HMG2.out.pkcell HPn.out p hpP
                                  have i1 : (p : Int) < (P : Int) := by omega
                                  obtain ⟨q, hq⟩ : ∃ q, q = PM.Qf us.length (wts cs us) j p := ⟨_, rfl⟩
                                  rw [← hq] at c1
                                  have HQ : Hid (q = PM.Qf us.length (wts cs us) j p) := hq
                                  clear hq
                                  go_wp2_with (at_builtin; refine wpList_append_lies _ rfl (.tmp 155) (.tmp 160) 49 rfl wj.heap.size 51 i0 _ 4 32 Try.underlying49 hi0 hz0 hz1 hz2 rfl (by omega) u13 m (itrow us.length (wts cs us) us j m) rfl (HMG2.out.own.alloc _) ⟨wl.heap.size, 0, none⟩ 1 1 [.int .i64 q, .int .i64 (-1), .int .i64 (2 * (p : Int)), .int .i64 (2 * (p : Int) + 1)] rfl rfl (World.news_of_block (cs := #[.int .i64 q, .int .i64 (-1), .int .i64 (2 * (p : Int)), .int .i64 (2 * (p : Int) + 1)]) (t := 51) (fr := (0, 0)) (heap_alloc_new wl _)) (by simp [Value.oneCell']) (by omega) (by unfold maxLen; omega) (by omega) (by simp; omega) (wl.heap.size + 1) (by simp) ?_; intro gg cap w6 hown1 hgrow hat hlt5)
                                  go_roundg (M - (m + 1))
                                  case measure => omega
                                  case rel =>
                                    have hst := PM.st_pack HLf.out
                                    refine ⟨m + 1, a, p + 1, Nat.le_refl _, rfl, by simp, ha, by omega, by have := hmap.out; show m + 1 = a + (p + 1); omega, ?_, ?_, MgSt.push HMG2.out ?_ hown1 (grown_of_alloc hgrow) hat⟩
                                    · rw [hst]; exact HMG.out.1
                                    · rw [hst]; show p + 1 = _ + 1; rw [← HMG.out.2.1]
                                    · have e1 := HMG.out.2.1
                                      unfold itv
                                      rw [if_neg (by rw [HLf.out]; decide), ← e1, ← HQ.out]
                                      rfl
                          · have d1 : decide (a < us.length) = false := decide_eq_false (by have h1 := hmap.out; have h2 := HMM.out; omega)
                            have d2 : decide (p < P) = false := decide_eq_false (by have h1 := hmap.out; have h2 := HMM.out; omega)
                            have HE : Hid (m = M) := by have h1 := hmap.out; have h2 := HMM.out; show m = M; omega
                            go_wp2
                            go_meet
                            case rel =>
                              have h := HMG.out.2.2
                              have e := HE.out
                              rw [e] at h
                              obtain ⟨a', c', hf, hn'⟩ := owns_form h.own
                              obtain ⟨g', rfl⟩ := hn' (by have := HMM.out; omega)
                              exact ⟨g', c', hf, h⟩
                      case rest =>
                        obtain ⟨g', c', rfl, HMG⟩ := hcut
                        obtain ⟨we, hwe⟩ : ∃ we, we = wc := ⟨_, rfl⟩
                        subst hwe
                        have hszj : gv + 1 ≤ wj.heap.size := by have h1 := HLS.out.keep.size; have h2 := HCB.out.size; omega
                        have hsze : wj.heap.size ≤ we.heap.size := HMG.out.bel.size
                        have HLS2 : Hid (LSt wb we us.length (wts cs us) us gv (gv + 1) j (.slice va j vc) lvs) := HLS.out.below HMG.out.bel hszj
                        have HQ : Hid (we.ownsRow (gv + 1) 51 4 (.slice (some ⟨g', 0, none⟩) M c') M (itrow us.length (wts cs us) us j M)) := owns_base HMG.out.own hszj
                        have q1 := HLS2.out.var.cell
                        obtain ⟨i0, hi0, hz0, hz1, hz2⟩ := info_parts Try.info49
                        have hvb : ∀ k, (Value.slice va j vc).ownBlock = some k → gv + 1 ≤ k := fun k hk => (owns_lt HLS2.out.own k hk).1
                        have hvg : some gv ≠ (Value.slice va j vc).ownBlock := fun e => by have := hvb gv e.symm; omega
                        have hge : gv < we.heap.size := by omega
                        have HVB : Hid (∀ w6 : World, ∀ o : Obj, (we.alloc o).grownBy w6 (Value.slice va j vc).ownBlock → Var w6 gv 48 (.slice va j vc)) := fun w6 o hg => (Blk.alloc HLS2.out.var o).of_heap (hg.block gv (by simp; omega) hvg)
                        clear hvb hvg
                        go_wp2_with (at_builtin; refine wpList_append_lies _ rfl (.tmp 164) (.tmp 166) 48 rfl (gv + 1) 49 i0 _ 1 24 Try.underlying48 hi0 hz0 hz1 hz2 rfl (by omega) (.slice va j vc) j lvs rfl (HLS2.out.own.alloc _) ⟨we.heap.size, 0, none⟩ 1 1 [.slice (some ⟨g', 0, none⟩) M c'] rfl rfl (World.news_of_block (cs := #[.slice (some ⟨g', 0, none⟩) M c']) (t := 49) (fr := (0, 0)) (heap_alloc_new we _)) (by simp [Value.oneCell']) (by omega) (by unfold maxLen; omega) (by omega) (by simp; omega) (we.heap.size + 1) (by simp) ?_; intro gg cap w6 hown1 hgrow hat hlt5; have q6 := (HVB.out w6 _ hgrow).cell; have q7 := (HVB.out w6 _ hgrow).frozen)
                        go_roundg (lim - (j + 1))
                        case measure => omega
                        case rel =>
                          have e := HMl.out
                          rw [e] at HQ hown1
                          exact ⟨j + 1, _, _, Nat.le_refl _, by simp, by omega, e ▸ LSt.push HLS2.out (by omega) HQ.out hown1 (grown_of_alloc hgrow)⟩
                  · go_wp2
                    go_meet
                    case rel =>
                      have e : j = lim := by omega
                      rw [e] at HLS
                      exact ⟨v, lvs, HLS⟩
              case rest =>
                obtain ⟨v, lvs, HL⟩ := hcut
                obtain ⟨we, hwe⟩ : ∃ we, we = wc := ⟨_, rfl⟩
                subst hwe
                obtain ⟨va, vc, rfl, hvn⟩ := owns_form HL.out.own
                obtain ⟨gr, rfl⟩ := hvn (by omega)
                clear hvn
                obtain ⟨gt, hgt⟩ : ∃ gt, gt = we.heap.size := ⟨_, rfl⟩
                obtain ⟨N, hNe⟩ : ∃ N, N = 2 * us.length - 2 := ⟨_, rfl⟩
                have hNi : 2 * (us.length : Int) - 2 = (N : Int) := by omega
                have HTE : Hid (∀ w5, Keeps (fun _ => False) we w5 → Var w5 gt 52 (.func (.func 31) #[] #[.pointer (some ⟨gv, 0, none⟩), .pointer (some ⟨w.heap.size + 2, 0, none⟩), .pointer (some ⟨gt, 0, none⟩)]) → TPre w w5 cs us gv gt lim) := fun w5 h1 h2 => tenv_of HCB.out hgh HL.out h1 h2
                go_upto_region 41 with fail
                go_cut [16, 173, 174] (fun x y z wx => x = .pointer (some ⟨gt, 0, none⟩) ∧ y = .int .i64 N ∧ z = .int .i64 0 ∧ Hid (TPre w wx cs us gv gt lim))
                case first =>
                  go_wp2
                  go_meet
                  case rel =>
                    refine ⟨by rw [hgt], by first | rfl | rw [hNe] | rw [hNi], rfl, HTE.out _ ?_ ?_⟩
                    · exact (Keeps.refl _ _).alloc _
                    · rw [hgt]; exact Blk.alloc_new we 52 [_]
                case rest =>
                  obtain ⟨rfl, rfl, rfl, HT0⟩ := hcut
                  obtain ⟨wt, hwt⟩ : ∃ wt, wt = wc := ⟨_, rfl⟩
                  subst hwt
                  obtain ⟨l0, hl0⟩ : ∃ l0, lim = l0 + 1 := ⟨lim - 1, by omega⟩
                  have hbig : Hid (N ≤ PM.len us.length (wts cs us) l0) := by
                    have h1 : us.length = xs.length := by have e1 := HD.out.2.2; have e2 := HXS.out; rw [e1, e2]
                    have h3 := hk.out (by omega)
                    rw [hl0, ← h1] at h3
                    have h4 := PM.len_ge (wts cs us) (show 1 ≤ us.length by omega) h3
                    show N ≤ _
                    omega
                  have i3 : (lim : Int) - 1 = (l0 : Int) := by omega
                  have HL0 : Hid (lim = l0 + 1) := hl0
                  have hNb : N ≤ 8192 := by omega
                  have HNE : Hid (N = 2 * us.length - 2) := hNe
                  clear hl0 hgt hNe hNi HTE HL HCB
                  go_wp2
                  go_loopg [174] N (fun k t wx => ∃ i : Nat, N - i ≤ k ∧ t = .int .i64 i ∧ i ≤ N ∧ Hid (∃ Ls, TL us (List.replicate cs.length 0) Ls (fun a => (PM.cnt us.length (wts cs us) l0 i a : Int)) ∧ Row wx (w.heap.size + 1) 5 .u8 Ls ∧ Keeps (fun k => k = w.heap.size + 1) wt wx))
                  case atStart => exact ⟨0, by omega, rfl, by omega, _, tl_start HD.out.1 l0, HT0.out.row, Keeps.refl _ _⟩
                  case round =>
                    obtain ⟨i, hkk, rfl, hi, HI⟩ := hrel
                    obtain ⟨Ls, hTL, hRw, hKp⟩ := HI.out
                    have henv := HT0.out.env.keeps hKp
                    have HX : Hid (TEnv wr us.length (wts cs us) us lim cs.length gv (w.heap.size + 2) gt (w.heap.size + 1) ∧ TL us (List.replicate cs.length 0) Ls (fun a => (PM.cnt us.length (wts cs us) l0 i a : Int)) ∧ Row wr (w.heap.size + 1) 5 .u8 Ls ∧ Keeps (fun k => k = w.heap.size + 1) wt wr) := ⟨henv, hTL, hRw, hKp⟩
                    obtain ⟨gr', c', hv1, -⟩ := henv.lv
                    have q1 := hv1.cell
                    have q2 := henv.tk.cell
                    have q3 := henv.ln.cell
                    clear hTL hRw hKp henv hv1 HI
                    by_cases hin : i < N
                    · have hini : (i : Int) < (N : Int) := by omega
                      go_wp2_with fail
                      refine (take_step (gt := gt) HD.out.1 hxl2 hl3 HL0.out HX.out.1 HX.out.2.2.1 HX.out.2.1 (Nat.lt_of_lt_of_le hin hbig.out)).mono ?_
                      rintro e w6 ⟨rfl, Ls', h1, h2', h3⟩
                      have HY : Hid (TL us (List.replicate cs.length 0) Ls' (fun a => (PM.cnt us.length (wts cs us) l0 (i + 1) a : Int)) ∧ Row w6 (w.heap.size + 1) 5 .u8 Ls' ∧ Keeps (fun k => k = w.heap.size + 1) wt w6) := ⟨h1, h2', HX.out.2.2.2.trans h3⟩
                      clear h1 h2' h3
                      go_wp2
                      go_roundg (N - (i + 1))
                      case measure => omega
                      case rel => exact ⟨i + 1, Nat.le_refl _, by simp, by omega, Ls', HY.out⟩
                    · have hE : Hid (i = 2 * us.length - 2) := by have h1 := HNE.out; show i = _; omega
                      go_wp2
                      go_ret
                      refine ⟨w.heap.size + 1, Ls, by simp, HX.out.2.2.1, by omega, clen_pm HD.out.1 HD.out.2.1 HD.out.2.2 hl3 ?_, ?_⟩
                      · have h1 := HX.out.2.1
                        have e := hE.out
                        rw [e] at h1
                        have e2 : lim - 1 = l0 := by have h1 := HL0.out; omega
                        rw [e2]
                        exact h1
                      · exact HT0.out.bel.trans (HX.out.2.2.2.below (fun k hk e => by omega) (by have := HT0.out.big; omega))
end Go.Proofs.Qxb6604297a
