/-
  The walk of codeLengths' closure 'take' (31).
-/
import Derived.Test.Qxb6604297aPM2
import Derived.Test.Qxb6604297aHuffC
set_option linter.unusedVariables false
namespace Go.Proofs.Qxb6604297a
open Go.ChangeShapes Go.WideShapes Go.ChangeAt Go.RowKit

/-- The four words of the t-th item of level l. -/
def itv (n : Nat) (C : Nat → Int) (us : List Int) (l t : Nat) : List Int :=
  if PM.leafAt n C l t then [C (PM.st n C l t).1, us.getD (PM.st n C l t).1 0, 0, 0] else [PM.Qf n C l (PM.st n C l t).2, -1, 2 * ((PM.st n C l t).2 : Int), 2 * ((PM.st n C l t).2 : Int) + 1]

/-- A slice value that reads the first m items of level l, outside block gL. -/
def Lvl (w : World) (n : Nat) (C : Nat → Int) (us : List Int) (gL : Nat) (v : Value) (l m : Nat) : Prop :=
  ∃ b c, v = .slice (some ⟨b, 0, none⟩) m c ∧ b < w.heap.size ∧ b ≠ gL ∧ ∀ t, t < m → ∀ f, f < 4 → w.cell? ⟨b, t * 4 + f, none⟩ = some (.int .i64 ((itv n C us l t).getD f 0))

/-- What take works on: the levels, the lengths' variable, itself. -/
structure TEnv (w : World) (n : Nat) (C : Nat → Int) (us : List Int) (L K gv gl gt gL : Nat) : Prop where
  lv : ∃ gr c, Var w gv 48 (.slice (some ⟨gr, 0, none⟩) L c) ∧ gr < w.heap.size ∧ gr ≠ gL ∧ ∀ l, l < L → ∃ v, w.cell? ⟨gr, l, none⟩ = some v ∧ Lvl w n C us gL v l (PM.len n C l)
  ln : Var w gl 26 (.slice (some ⟨gL, 0, none⟩) K K)
  tk : Var w gt 52 (.func (.func 31) #[] #[.pointer (some ⟨gv, 0, none⟩), .pointer (some ⟨gl, 0, none⟩), .pointer (some ⟨gt, 0, none⟩)])
  nv : gv ≠ gL
  nl : gl ≠ gL
  nt : gt ≠ gL

theorem cell_keeps {w w' : World} {S : Nat → Prop} (hk : Keeps S w w') {b i : Nat} (hb : b < w.heap.size) (hs : ¬ S b) : w'.cell? ⟨b, i, none⟩ = w.cell? ⟨b, i, none⟩ :=
  World.cell?_of_block (a := ⟨b, i, none⟩) (hk.block b hb hs)
theorem Lvl.keeps {w w' : World} {n : Nat} {C : Nat → Int} {us : List Int} {gL : Nat} {v : Value} {l m : Nat} (h : Lvl w n C us gL v l m) (hk : Keeps (fun k => k = gL) w w') : Lvl w' n C us gL v l m := by
  obtain ⟨b, c, hv, hb, hne, hc⟩ := h
  exact ⟨b, c, hv, Nat.lt_of_lt_of_le hb hk.size, hne, fun t ht f hf => (cell_keeps hk hb hne).trans (hc t ht f hf)⟩
theorem TEnv.keeps {w w' : World} {n : Nat} {C : Nat → Int} {us : List Int} {L K gv gl gt gL : Nat} (h : TEnv w n C us L K gv gl gt gL) (hk : Keeps (fun k => k = gL) w w') : TEnv w' n C us L K gv gl gt gL := by
  obtain ⟨⟨gr, c, h1, h2, h3, h4⟩, hln, htk, nv, nl, nt⟩ := h
  refine ⟨⟨gr, c, hk.blk h1 nv, Nat.lt_of_lt_of_le h2 hk.size, h3, fun l hl => ?_⟩, hk.blk hln nl, hk.blk htk nt, nv, nl, nt⟩
  obtain ⟨v, hv, hL⟩ := h4 l hl
  exact ⟨v, (cell_keeps hk h2 h3).trans hv, hL.keeps hk⟩

/-- The lengths row: f at the used symbols, elsewhere as it was. -/
structure TL (us zs Ls : List Int) (f : Nat → Int) : Prop where
  len : Ls.length = zs.length
  at_ : ∀ i, i < us.length → Ls.getD (us.getD i 0).toNat 0 = f i
  off : ∀ u, (∀ i, i < us.length → (us.getD i 0).toNat ≠ u) → Ls.getD u 0 = zs.getD u 0

def TakePost (gL : Nat) (us zs : List Int) (f : Nat → Int) (w : World) (e : Ending) (w' : World) : Prop :=
  e = .returned (.tuple #[]) ∧ ∃ Ls, TL us zs Ls f ∧ Row w' gL 5 .u8 Ls ∧ Keeps (fun k => k = gL) w w'

theorem tl_step {cs us zs Ls : List Int} {f : Nat → Int} (hd : HDom cs us zs.length) (h : TL us zs Ls f) {a u : Nat} (ha : a < us.length) (hu : us.getD a 0 = (u : Int)) : TL us zs (Ls.set u (f a + 1)) (fun i => f i + if a = i then 1 else 0) := by
  have hul : u < Ls.length := by rw [h.len]; have := hd.idx a ha; omega
  have hset : ∀ j, (Ls.set u (f a + 1)).getD j 0 = if j = u then f a + 1 else Ls.getD j 0 := fun j => Huff.getD_set Ls u j _ hul
  refine ⟨by rw [List.length_set]; exact h.len, ?_, ?_⟩
  · intro i hi
    rw [hset]
    by_cases e : a = i
    · subst e
      rw [hu, Int.toNat_natCast, if_pos rfl]
      simp
    · have hne : (us.getD i 0).toNat ≠ u := by
        intro he
        have h1 := hd.idx i hi
        exact e (hd.dist a i ha hi (by omega))
      rw [if_neg hne, h.at_ i hi]
      simp [e]
  · intro j hj
    have h1 := hj a ha
    rw [hu, Int.toNat_natCast] at h1
    rw [hset, if_neg (fun e => h1 e.symm)]
    exact h.off j hj

theorem Lvl.at_ {w : World} {n : Nat} {C : Nat → Int} {us : List Int} {gL : Nat} {v : Value} {l m : Nat} (h : Lvl w n C us gL v l m) {t : Nat} (ht : t < m) :
    ∃ b c x0 x1 x2 x3, v = .slice (some ⟨b, 0, none⟩) m c ∧ b < w.heap.size ∧ b ≠ gL ∧ itv n C us l t = [x0, x1, x2, x3] ∧ w.cell? ⟨b, t * 4, none⟩ = some (.int .i64 x0) ∧ w.cell? ⟨b, t * 4 + 1, none⟩ = some (.int .i64 x1) ∧ w.cell? ⟨b, t * 4 + 2, none⟩ = some (.int .i64 x2) ∧ w.cell? ⟨b, t * 4 + 3, none⟩ = some (.int .i64 x3) := by
  obtain ⟨b, c, rfl, hb, hne, hc⟩ := h
  obtain ⟨x0, x1, x2, x3, hx⟩ : ∃ x0 x1 x2 x3, itv n C us l t = [x0, x1, x2, x3] := by
    unfold itv
    split <;> exact ⟨_, _, _, _, rfl⟩
  have c0 := hc t ht 0 (by omega)
  have c1 := hc t ht 1 (by omega)
  have c2 := hc t ht 2 (by omega)
  have c3 := hc t ht 3 (by omega)
  rw [hx] at c0 c1 c2 c3
  exact ⟨b, c, x0, x1, x2, x3, rfl, hb, hne, hx, c0, c1, c2, c3⟩

set_option maxRecDepth 100000 in
set_option maxHeartbeats 4000000 in
theorem take_leaf (n : Nat) (C : Nat → Int) (cs us zs Ls : List Int) (f : Nat → Int) (L K gv gl gt gL l t : Nat) (w : World) (env : TEnv w n C us L K gv gl gt gL) (hr : Row w gL 5 .u8 Ls) (hT : TL us zs Ls f) (hd : HDom cs us zs.length)
    (hn : us.length = n) (hK : zs.length = K) (hl : l < L) (hL : L ≤ 65536) (ht : t < PM.len n C l) (hleaf : PM.leafAt n C l t = true) (hf : 0 ≤ f (PM.st n C l t).1 ∧ f (PM.st n C l t).1 + 1 ≤ 255) :
    Calls Try.prog 31 #[.int .i64 l, .int .i64 t, .pointer (some ⟨gv, 0, none⟩), .pointer (some ⟨gl, 0, none⟩), .pointer (some ⟨gt, 0, none⟩)] w
      (TakePost gL us zs (fun i => f i + if (PM.st n C l t).1 = i then 1 else 0) w) := by
  obtain ⟨⟨gr, c, h1, h2, h3, h4⟩, hln, htk, nv, nl, nt⟩ := env
  obtain ⟨v, hv, hlv⟩ := h4 l hl
  obtain ⟨b, c', x0, x1, x2, x3, rfl, hb, hbne, hx, c0, c1, c2, c3⟩ := hlv.at_ ht
  clear h4 hlv
  have hst := PM.leaf_lt ht hleaf
  obtain ⟨a, ha⟩ : ∃ a, a = (PM.st n C l t).1 := ⟨_, rfl⟩
  unfold itv at hx
  rw [if_pos hleaf] at hx
  rw [← ha] at hx hst hf ⊢
  clear ha hleaf
  obtain ⟨rfl, rfl, rfl, rfl⟩ : x0 = C a ∧ x1 = us.getD a 0 ∧ x2 = 0 ∧ x3 = 0 := by
    simp only [List.cons.injEq] at hx
    omega
  clear hx
  have hu := hd.idx a (by omega)
  obtain ⟨u, hu1⟩ : ∃ u : Nat, us.getD a 0 = (u : Int) := ⟨(us.getD a 0).toNat, by omega⟩
  have hfa := hT.at_ a (by omega)
  rw [hu1, Int.toNat_natCast] at hfa
  rw [hu1] at c1 hu
  have q1 := h1.cell
  have q2 := hln.cell
  have hlen := hT.len
  have q3 := hr.cell (i := u) (by omega)
  rw [hfa] at q3
  have i1 : (t : Int) < (PM.len n C l : Int) := by omega
  have i2 : (l : Int) < (L : Int) := by omega
  have i3 : (u : Int) < (K : Int) := by omega
  obtain ⟨fa, hfa'⟩ : ∃ fa, fa = f a := ⟨_, rfl⟩
  rw [← hfa'] at q3 hf
  obtain ⟨m, hm⟩ : ∃ m, m = PM.len n C l := ⟨_, rfl⟩
  rw [← hm] at i1 hv ht
  obtain ⟨C0, hC0⟩ : ∃ C0, C0 = C a := ⟨_, rfl⟩
  rw [← hC0] at c0
  clear hm hC0
  have HR : Hid (Row w gL 5 .u8 Ls) := hr
  have HT : Hid (TL us zs Ls f) := hT
  have HLN : Hid (Var w gl 26 (.slice (some ⟨gL, 0, none⟩) K K)) := hln
  have hgL : gL < w.heap.size := hr.lt
  have hgl : gl < w.heap.size := hln.lt
  clear hr hT hln
  go_enter Try.func31, Try.ntmps31
  go_upto_region 1 with fail
  go_cut [7, 17] (fun x y wx => x = .pointer (some ⟨w.heap.size, 0, none⟩) ∧ y = .bool true ∧ Hid (Blk wx w.heap.size 51 [.int .i64 C0, .int .i64 u, .int .i64 0, .int .i64 0] ∧ Keeps (fun _ => False) w wx))
  case first =>
    go_wp2
    go_meet
    case rel => exact ⟨rfl, rfl, Blk.alloc_new w 51 _, (Keeps.refl _ _).alloc _⟩
  case rest =>
    obtain ⟨rfl, rfl, HX⟩ := hcut
    have hrow : Row wc gL 5 .u8 Ls := HX.out.2.row HR.out (fun h => h)
    have r1 : wc.cell? ⟨w.heap.size, 1, none⟩ = some (.int .i64 u) := by rw [HX.out.1.cell]; rfl
    have r2 : wc.cell? ⟨gl, 0, none⟩ = some (.slice (some ⟨gL, 0, none⟩) K K) := (cell_keeps HX.out.2 hgl (fun h => h)).trans q2
    have r3 : wc.cell? ⟨gL, u, none⟩ = some (.int .u8 fa) := (cell_keeps HX.out.2 hgL (fun h => h)).trans q3
    have r4 := hrow.frozen u
    clear c0 c1 c2 c3 q1 q2 q3 h1
    go_wp2
    go_end0
    refine ⟨rfl, Ls.set u (f a + 1), tl_step hd HT.out (by omega) hu1, hrow.set u _, ?_⟩
    exact Keeps.set (S := fun k => k = gL) (HX.out.2.mono (fun k h => h.elim)) rfl _

/-- What take does at level l. -/
def TakesAt (n : Nat) (C : Nat → Int) (us zs : List Int) (L K gv gl gt gL l : Nat) : Prop :=
  ∀ (t : Nat) (f : Nat → Int) (Ls : List Int) (w : World), TEnv w n C us L K gv gl gt gL → Row w gL 5 .u8 Ls → TL us zs Ls f → t < PM.len n C l → (∀ i, i < n → 0 ≤ f i ∧ f i + PM.lc n C l t i ≤ 255) →
    Calls Try.prog 31 #[.int .i64 l, .int .i64 t, .pointer (some ⟨gv, 0, none⟩), .pointer (some ⟨gl, 0, none⟩), .pointer (some ⟨gt, 0, none⟩)] w
      (TakePost gL us zs (fun i => f i + PM.lc n C l t i) w)

theorem TL.congr {us zs Ls : List Int} {f g : Nat → Int} (h : TL us zs Ls f) (e : ∀ i, i < us.length → f i = g i) : TL us zs Ls g :=
  ⟨h.len, fun i hi => (h.at_ i hi).trans (e i hi), h.off⟩

set_option maxRecDepth 100000 in
set_option maxHeartbeats 4000000 in
theorem take_pack (n : Nat) (C : Nat → Int) (us zs Ls : List Int) (f : Nat → Int) (L K gv gl gt gL l t : Nat) (w : World) (env : TEnv w n C us L K gv gl gt gL) (hr : Row w gL 5 .u8 Ls) (hT : TL us zs Ls f)
    (ih : TakesAt n C us zs L K gv gl gt gL l) (hn : us.length = n)
    (hl : l + 1 < L) (hL : L ≤ 65536) (ht : t < PM.len n C (l + 1)) (hleaf : PM.leafAt n C (l + 1) t = false) (hf : ∀ i, i < n → 0 ≤ f i ∧ f i + PM.lc n C (l + 1) t i ≤ 255) (hl2 : PM.len n C l ≤ 1048576) :
    Calls Try.prog 31 #[.int .i64 ((l + 1 : Nat) : Int), .int .i64 t, .pointer (some ⟨gv, 0, none⟩), .pointer (some ⟨gl, 0, none⟩), .pointer (some ⟨gt, 0, none⟩)] w
      (TakePost gL us zs (fun i => f i + PM.lc n C (l + 1) t i) w) := by
  have HENV : Hid (TEnv w n C us L K gv gl gt gL) := env
  obtain ⟨⟨gr, c, h1, h2, h3, h4⟩, hln, htk, nv, nl, nt⟩ := env
  obtain ⟨v, hv, hlv⟩ := h4 (l + 1) hl
  obtain ⟨b, c', x0, x1, x2, x3, rfl, hb, hbne, hx, c0, c1, c2, c3⟩ := hlv.at_ ht
  clear h4 hlv
  have hp := PM.pack_lt ht hleaf
  have hlc : ∀ i, PM.lc n C (l + 1) t i = PM.lc n C l (2 * (PM.st n C (l + 1) t).2) i + PM.lc n C l (2 * (PM.st n C (l + 1) t).2 + 1) i := by
    intro i
    simp only [PM.lc]
    rw [if_neg (by rw [hleaf]; decide)]
  unfold itv at hx
  rw [if_neg (by rw [hleaf]; decide)] at hx
  obtain ⟨p, hp'⟩ : ∃ p, p = (PM.st n C (l + 1) t).2 := ⟨_, rfl⟩
  rw [← hp'] at hx hp hlc
  clear hp' hleaf
  have HLC : Hid (∀ i, PM.lc n C (l + 1) t i = PM.lc n C l (2 * p) i + PM.lc n C l (2 * p + 1) i) := hlc
  have HF : Hid (∀ i, i < n → 0 ≤ f i ∧ f i + PM.lc n C (l + 1) t i ≤ 255) := hf
  have HIH : Hid (TakesAt n C us zs L K gv gl gt gL l) := ih
  obtain ⟨rfl, rfl, rfl⟩ : x1 = -1 ∧ x2 = ((2 * p : Nat) : Int) ∧ x3 = ((2 * p + 1 : Nat) : Int) := by
    simp only [List.cons.injEq] at hx
    omega
  clear hx hlc hf ih
  have q1 := h1.cell
  have i1 : (t : Int) < (PM.len n C (l + 1) : Int) := by omega
  have i2 : ((l + 1 : Nat) : Int) < (L : Int) := by omega
  have i3 : ((l + 1 : Nat) : Int) - 1 = (l : Int) := by omega
  obtain ⟨k1, hk1⟩ : ∃ k1, k1 = l + 1 := ⟨_, rfl⟩
  obtain ⟨a1, ha1⟩ : ∃ a1, a1 = 2 * p := ⟨_, rfl⟩
  obtain ⟨a2, ha2⟩ : ∃ a2, a2 = 2 * p + 1 := ⟨_, rfl⟩
  obtain ⟨m, hm⟩ : ∃ m, m = PM.len n C (l + 1) := ⟨_, rfl⟩
  rw [← hm] at i1 hv ht
  rw [← ha1] at c2
  rw [← ha2] at c3
  rw [← ha2, ← ha1] at HLC
  rw [← hk1] at i2 i3 hv hl hm HLC HF ⊢
  have HR : Hid (Row w gL 5 .u8 Ls) := hr
  have HT : Hid (TL us zs Ls f) := hT
  have hk3 : k1 ≤ 65536 := by omega
  have hA1 : a1 < PM.len n C l := by omega
  have hA2 : a2 < PM.len n C l := by omega
  clear hr hT hm hk1 ha1 ha2 hln htk nv nl nt hp
  go_enter Try.func31, Try.ntmps31
  go_upto_region 1 with fail
  go_cut [7, 17] (fun x y wx => x = .pointer (some ⟨w.heap.size, 0, none⟩) ∧ y = .bool false ∧ Hid (Blk wx w.heap.size 51 [.int .i64 x0, .int .i64 (-1), .int .i64 a1, .int .i64 a2] ∧ Keeps (fun _ => False) w wx))
  case first =>
    go_wp2
    go_meet
    case rel => exact ⟨rfl, rfl, Blk.alloc_new w 51 _, (Keeps.refl _ _).alloc _⟩
  case rest =>
    obtain ⟨rfl, rfl, HX⟩ := hcut
    have hrow : Row wc gL 5 .u8 Ls := HX.out.2.row HR.out (fun h => h)
    have env2 := HENV.out.keeps (HX.out.2.mono (fun k h => h.elim))
    have r1 : wc.cell? ⟨w.heap.size, 2, none⟩ = some (.int .i64 a1) := by rw [HX.out.1.cell]; rfl
    have r2 := env2.tk.cell
    have H2 : Hid (TEnv wc n C us L K gv gl gt gL ∧ Row wc gL 5 .u8 Ls) := ⟨env2, hrow⟩
    have hne : w.heap.size ≠ gL := fun e => by have := HR.out.lt; omega
    clear c0 c1 c2 c3 q1 h1 hv env2 hrow
    go_wp2_with fail
    refine (HIH.out a1 f Ls wc H2.out.1 H2.out.2 HT.out hA1 (fun i hi => by have h1 := HF.out i hi; have h2 := HLC.out i; omega)).mono ?_
    rintro e w1 ⟨rfl, Ls1, hT1, hr1, hk1⟩
    have HT1 : Hid (TL us zs Ls1 (fun i => f i + PM.lc n C l a1 i)) := hT1
    have env3 := H2.out.1.keeps hk1
    have s1 : w1.cell? ⟨w.heap.size, 3, none⟩ = some (.int .i64 a2) := by
      rw [(hk1.blk HX.out.1 hne).cell]; rfl
    have s2 := env3.tk.cell
    have H3 : Hid (TEnv w1 n C us L K gv gl gt gL ∧ Row w1 gL 5 .u8 Ls1 ∧ Keeps (fun k => k = gL) wc w1) := ⟨env3, hr1, hk1⟩
    clear env3 hr1 hk1 hT1 r1 r2
    go_wp2_with fail
    refine (HIH.out a2 _ Ls1 w1 H3.out.1 H3.out.2.1 HT1.out hA2 (fun i hi => by have h1 := HF.out i hi; have h2 := HLC.out i; omega)).mono ?_
    rintro e w2 ⟨rfl, Ls2, hT2, hr2, hk2⟩
    have H4 : Hid (TL us zs Ls2 (fun i => f i + PM.lc n C l a1 i + PM.lc n C l a2 i) ∧ Row w2 gL 5 .u8 Ls2 ∧ Keeps (fun k => k = gL) w1 w2) := ⟨hT2, hr2, hk2⟩
    clear hT2 hr2 hk2 s1 s2
    go_wp2
    go_end0
    refine ⟨rfl, Ls2, H4.out.1.congr (fun i hi => ?_), H4.out.2.1, ?_⟩
    · have h2 := HLC.out i
      omega
    · exact ((HX.out.2.mono (fun k h => h.elim)).trans H3.out.2.2).trans H4.out.2.2

theorem take_all (n : Nat) (C : Nat → Int) (cs us zs : List Int) (L K gv gl gt gL : Nat) (hd : HDom cs us zs.length) (hn : us.length = n) (hK : zs.length = K) (hL : L ≤ 65536) (hn2 : n ≤ 4096) (l : Nat) (hl : l < L) :
    TakesAt n C us zs L K gv gl gt gL l := by
  have h2 := hd.two
  induction l with
  | zero =>
    intro t f Ls w env hr hT ht hf
    have hleaf := PM.leaf_zero ht
    have hst := PM.leaf_lt ht hleaf
    have h1 := hf _ hst
    simp only [PM.lc, if_true] at h1
    refine (take_leaf n C cs us zs Ls f L K gv gl gt gL 0 t w env hr hT hd hn hK hl hL ht hleaf ⟨h1.1, by omega⟩).mono ?_
    rintro e w' ⟨he, Ls', hT', hrest⟩
    refine ⟨he, Ls', hT'.congr (fun i hi => ?_), hrest⟩
    simp only [PM.lc]
    split <;> rfl
  | succ l ih =>
    intro t f Ls w env hr hT ht hf
    by_cases hleaf : PM.leafAt n C (l + 1) t = true
    · have hst := PM.leaf_lt ht hleaf
      have h1 := hf _ hst
      have e : ∀ i, PM.lc n C (l + 1) t i = if (PM.st n C (l + 1) t).1 = i then 1 else 0 := by
        intro i
        simp only [PM.lc]
        rw [if_pos hleaf]
      rw [e, if_pos rfl] at h1
      refine (take_leaf n C cs us zs Ls f L K gv gl gt gL (l + 1) t w env hr hT hd hn hK hl hL ht hleaf ⟨h1.1, by omega⟩).mono ?_
      rintro e' w' ⟨he, Ls', hT', hrest⟩
      refine ⟨he, Ls', hT'.congr (fun i hi => ?_), hrest⟩
      rw [e]
      split <;> rfl
    · have hleaf' : PM.leafAt n C (l + 1) t = false := by simpa using hleaf
      have := PM.len_le C (show 1 ≤ n by omega) l
      exact take_pack n C us zs Ls f L K gv gl gt gL l t w env hr hT (ih (by omega)) hn hl hL ht hleaf' hf (by omega)
end Go.Proofs.Qxb6604297a
