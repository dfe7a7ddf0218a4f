/-
  The memory of codeLengths: clear, the items' rows, the levels.
-/
import Derived.Test.Qxb6604297aScan
import Derived.Test.Qxb6604297aHuffDom
import Derived.Lib.SliceRun
import Derived.Deep.RegionHeld3
import Derived.Deep.AppendLies
set_option linter.unusedVariables false
namespace Go.Proofs.Qxb6604297a
open Go.ChangeShapes Go.WideShapes Go.ChangeAt Go.RowKit

theorem Try.info51 : (Try.prog.info? 51).map (fun i => (i.zero, i.size, i.bytes)) = some (some (.agg #[.int .i64 0, .int .i64 0, .int .i64 0, .int .i64 0]), 4, 32) := by kernel_rfl
theorem Try.info49 : (Try.prog.info? 49).map (fun i => (i.zero, i.size, i.bytes)) = some (some (.slice none 0 0), 1, 24) := by kernel_rfl

/-! ### clear -/
theorem row_noughts {g : Nat} {e : TypeId} {k : IntKind} (m : Nat) : ∀ (o : Nat) (xs : List Int) (w : World), Row w g e k xs → ∃ ys : List Int, ys.length = xs.length ∧ (∀ i, i < xs.length → ys.getD i 0 = if o ≤ i ∧ i < o + m then 0 else xs.getD i 0) ∧ Row (w.setCells g o (List.replicate m (.int k 0))) g e k ys := by
  induction m with
  | zero => intro o xs w h; exact ⟨xs, rfl, fun i _ => by rw [if_neg (by omega)], h⟩
  | succ m ih =>
    intro o xs w h
    obtain ⟨ys, h1, h2, h3⟩ := ih (o + 1) (xs.set o 0) _ (h.set o 0)
    rw [List.length_set] at h1 h2
    refine ⟨ys, h1, ?_, h3⟩
    intro i hi
    rw [h2 i hi]
    by_cases c : i = o
    · subst c
      rw [if_neg (by omega), if_pos (by omega)]
      simp [List.getD_eq_getElem?_getD, hi]
    · by_cases d : o + 1 ≤ i ∧ i < o + 1 + m
      · rw [if_pos d, if_pos (by omega)]
      · rw [if_neg d, if_neg (by omega)]
        simp [List.getD_eq_getElem?_getD, List.getElem?_set_ne (fun e => c e.symm)]
theorem keeps_setCells (g : Nat) : ∀ (vs : List Value) (o : Nat) (a w : World), Keeps (fun k => k = g) a w → Keeps (fun k => k = g) a (w.setCells g o vs)
  | [], _, _, _, h => h
  | v :: r, o, a, w, h => keeps_setCells g r (o + 1) a _ (Keeps.set (S := fun k => k = g) h rfl v)

theorem run_clear (w : World) (g n c : Nat) (xs : List Int) (hrow : Row w g 5 .u8 xs) (hl : xs.length = n) (hn : 0 < n) :
    ∃ w', (Builtin.clear_ #[26] 0 #[.slice (some ⟨g, 0, none⟩) n c]).run Try.prog w = .ok (.tuple #[]) w' ∧ Row w' g 5 .u8 (List.replicate n 0) ∧ Keeps (fun k => k = g) w w' ∧ w'.heap.size = w.heap.size := by
  obtain ⟨i0, hi, hz0, hz1, hz2⟩ := info_parts Try.info5
  have hz : ∀ w, (zeroValue 5).run Try.prog w = .ok (.int .u8 0) w := by
    intro w
    simp [zeroValue, typeInfo, hi, hz0]
  refine ⟨_, Go.Lib.run_clear_slice (P := Try.prog) w 26 5 0 (.int .u8 0) Try.underlying26 hz rfl rfl g 0 n c hn
    (fun j hj => by rw [Nat.zero_add, hrow.cell (by omega)]; rfl) (fun j hj => hrow.frozen _), ?_, keeps_setCells g _ _ _ _ (Keeps.refl _ _), ?_⟩
  · obtain ⟨ys, h1, h2, h3⟩ := row_noughts n 0 xs w hrow
    have e : ys = List.replicate n 0 := by
      apply List.ext_getElem
      · rw [h1, hl, List.length_replicate]
      · intro i p1 p2
        have := h2 i (by omega)
        rw [if_pos (by omega), List.getD_eq_getElem?_getD, List.getElem?_eq_getElem p1, Option.getD_some] at this
        rw [this, List.getElem_replicate]
    rw [← e]
    exact h3
  · have : ∀ (vs : List Value) (o : Nat) (w : World), (w.setCells g o vs).heap.size = w.heap.size := by
      intro vs
      induction vs with
      | nil => intro o w; rfl
      | cons v r ih => intro o w; show ((w.setCell _ v).setCells g (o + 1) r).heap.size = _; rw [ih]; simp [World.setCell]
    exact this _ _ _

/-! ### items -/
/-- The words of level l's first m items. -/
def itrow (n : Nat) (C : Nat → Int) (us : List Int) (l : Nat) : Nat → List Value
  | 0 => []
  | m + 1 => itrow n C us l m ++ (itv n C us l m).map (Value.int .i64)
/-- A package's words. -/
def pkv (n : Nat) (C : Nat → Int) (l k : Nat) : List Int := [PM.Qf n C l k, -1, 2 * (k : Int), 2 * (k : Int) + 1]
def pkrow (n : Nat) (C : Nat → Int) (l : Nat) : Nat → List Value
  | 0 => []
  | k + 1 => pkrow n C l k ++ (pkv n C l k).map (Value.int .i64)
theorem itv_len (n : Nat) (C : Nat → Int) (us : List Int) (l t : Nat) : (itv n C us l t).length = 4 := by unfold itv; split <;> rfl
theorem itrow_len (n : Nat) (C : Nat → Int) (us : List Int) (l m : Nat) : (itrow n C us l m).length = m * 4 := by
  induction m with
  | zero => rfl
  | succ m ih => simp only [itrow]; rw [List.length_append, List.length_map, itv_len, ih]; omega
theorem pkv_len (n : Nat) (C : Nat → Int) (l k : Nat) : (pkv n C l k).length = 4 := rfl
theorem pkrow_len (n : Nat) (C : Nat → Int) (l m : Nat) : (pkrow n C l m).length = m * 4 := by
  induction m with
  | zero => rfl
  | succ m ih => simp only [pkrow]; rw [List.length_append, List.length_map, ih]; simp [pkv]; omega
theorem itrow_at (n : Nat) (C : Nat → Int) (us : List Int) (l m : Nat) : ∀ t, t < m → ∀ f, f < 4 → (itrow n C us l m)[t * 4 + f]? = some (.int .i64 ((itv n C us l t).getD f 0)) := by
  induction m with
  | zero => intro t ht; omega
  | succ m ih =>
    intro t ht f hf
    simp only [itrow]
    by_cases c : t < m
    · rw [List.getElem?_append_left (by rw [itrow_len]; omega)]
      exact ih t c f hf
    · have e : t = m := by omega
      subst e
      rw [List.getElem?_append_right (by rw [itrow_len]; omega), itrow_len, Nat.add_sub_cancel_left]
      simp [itv_len, hf]
theorem pkrow_at (n : Nat) (C : Nat → Int) (l m : Nat) : ∀ t, t < m → ∀ f, f < 4 → (pkrow n C l m)[t * 4 + f]? = some (.int .i64 ((pkv n C l t).getD f 0)) := by
  induction m with
  | zero => intro t ht; omega
  | succ m ih =>
    intro t ht f hf
    simp only [pkrow]
    by_cases c : t < m
    · rw [List.getElem?_append_left (by rw [pkrow_len]; omega)]
      exact ih t c f hf
    · have e : t = m := by omega
      subst e
      rw [List.getElem?_append_right (by rw [pkrow_len]; omega), pkrow_len, Nat.add_sub_cancel_left]
      have hf' : f < (pkv n C l t).length := hf
      rw [List.getElem?_map, List.getD_eq_getElem?_getD, List.getElem?_eq_getElem hf']
      rfl

theorem add_none (g i : Nat) : (⟨g, 0, none⟩ : Addr).add i = ⟨g, i, none⟩ := by unfold Addr.add; split <;> simp_all
theorem owns_cell {w : World} {B : Nat} {e : TypeId} {size g n cap : Nat} {xs : List Value} (h : w.ownsRow B e size (.slice (some ⟨g, 0, none⟩) n cap) n xs) {i : Nat} {v : Value} (hv : xs[i]? = some v) : w.cell? ⟨g, i, none⟩ = some v := by
  have := h.cells (g := g) rfl i v hv
  rw [add_none] at this
  exact this
theorem owns_type {w : World} {B : Nat} {e : TypeId} {size g n cap : Nat} {xs : List Value} (h : w.ownsRow B e size (.slice (some ⟨g, 0, none⟩) n cap) n xs) : B ≤ g ∧ ∃ cur, w.heap[g]? = some (.cells cur e (0, 0)) := by
  rcases h.2 with ⟨h1, _⟩ | ⟨g', cap', cur, hv, hb, hg, _⟩
  · simp at h1
  · simp only [Value.slice.injEq, Option.some.injEq, Addr.mk.injEq] at hv
    obtain ⟨⟨rfl, _⟩, _⟩ := hv
    exact ⟨hb, cur, hg⟩
theorem owns_base {w : World} {B B' : Nat} {e : TypeId} {size n : Nat} {v : Value} {xs : List Value} (h : w.ownsRow B e size v n xs) (hB : B' ≤ B) : w.ownsRow B' e size v n xs := by
  refine ⟨h.1, ?_⟩
  rcases h.2 with h2 | ⟨g, cap, cur, hv, hg, r⟩
  · exact .inl h2
  · exact .inr ⟨g, cap, cur, hv, Nat.le_trans hB hg, r⟩
theorem owns_heap {w w' : World} {B : Nat} {e : TypeId} {size n : Nat} {v : Value} {xs : List Value} (h : w.ownsRow B e size v n xs) (hh : ∀ g, v.ownBlock = some g → w'.heap[g]? = w.heap[g]?) : w'.ownsRow B e size v n xs := by
  refine ⟨h.1, ?_⟩
  rcases h.2 with h2 | ⟨g, cap, cur, rfl, hg, hb, r⟩
  · exact .inl h2
  · exact .inr ⟨g, cap, cur, rfl, hg, by rw [hh g rfl]; exact hb, r⟩

/-- make([]item, 0, N) -/
def mrow (N : Nat) : Array Value := madeCells (Value.agg #[.int .i64 0, .int .i64 0, .int .i64 0, .int .i64 0]).cells (N * 4)
theorem make_items (N : Nat) (hN : N ≤ 1048576) (w : World) :
    (Instr.makeSlice 49 (.int .i64 0) (.int .i64 (N : Int))).run Try.prog w = .ok (.slice (some ⟨w.heap.size, 0, none⟩) 0 N) (w.alloc (.cells (mrow N) 51)) := by
  obtain ⟨i0, hi, hz0, hz1, hz2⟩ := info_parts Try.info51
  have h := run_make (P := Try.prog) w 49 51 i0 _ Try.underlying49 hi hz0 .i64 .i64 0 (N : Int) (by omega) (by omega) (by rw [hz2]; omega) (by omega)
  rw [hz1, Int.toNat_natCast] at h
  exact h
theorem owns_made {w : World} {B N : Nat} (hB : B ≤ w.heap.size) (hN : N ≤ 1048576) : (w.alloc (.cells (mrow N) 51)).ownsRow B 51 4 (.slice (some ⟨w.heap.size, 0, none⟩) 0 N) 0 [] := by
  refine ⟨rfl, .inr ⟨w.heap.size, N, mrow N, rfl, hB, heap_alloc_new w _, Nat.zero_le _, by unfold maxLen; omega, by simp [mrow, madeCells], by simp⟩⟩

/-! ### the levels -/
structure LSt (wb wx : World) (n : Nat) (C : Nat → Int) (us : List Int) (gv B j : Nat) (v : Value) (lvs : List Value) : Prop where
  keep : Keeps (fun k => k = gv ∨ B ≤ k) wb wx
  var : Var wx gv 48 v
  own : wx.ownsRow B 49 1 v j lvs
  lev : ∀ l, l < j → ∃ g c, lvs[l]? = some (.slice (some ⟨g, 0, none⟩) (PM.len n C l) c) ∧ wx.ownsRow B 51 4 (.slice (some ⟨g, 0, none⟩) (PM.len n C l) c) (PM.len n C l) (itrow n C us l (PM.len n C l))

theorem owns_lt {w : World} {B : Nat} {e : TypeId} {size n : Nat} {v : Value} {xs : List Value} (h : w.ownsRow B e size v n xs) : ∀ g, v.ownBlock = some g → B ≤ g ∧ g < w.heap.size := World.ownsRow.lt h
theorem LSt.below {wb wr wx : World} {n : Nat} {C : Nat → Int} {us : List Int} {gv B j : Nat} {v : Value} {lvs : List Value} (h : LSt wb wr n C us gv B j v lvs) (hb : Below wr.heap.size wr wx) (hB : B ≤ wr.heap.size) : LSt wb wx n C us gv B j v lvs := by
  refine ⟨h.keep.trans (Keeps.of_below hb (fun k hk => .inr (by omega))), h.var.below hb h.var.lt, owns_heap h.own (fun g hg => hb.block g (owns_lt h.own g hg).2), ?_⟩
  intro l hl
  obtain ⟨g, c, h1, h2⟩ := h.lev l hl
  exact ⟨g, c, h1, owns_heap h2 (fun g' hg' => hb.block g' (owns_lt h2 g' hg').2)⟩
theorem LSt.push {wb wx w' : World} {n : Nat} {C : Nat → Int} {us : List Int} {gv B j : Nat} {v v' : Value} {lvs : List Value} (h : LSt wb wx n C us gv B j v lvs) (hgv : gv < B) {g c : Nat}
    (hq : wx.ownsRow B 51 4 (.slice (some ⟨g, 0, none⟩) (PM.len n C j) c) (PM.len n C j) (itrow n C us j (PM.len n C j)))
    (ho : w'.ownsRow B 49 1 v' (j + 1) (lvs ++ [.slice (some ⟨g, 0, none⟩) (PM.len n C j) c])) (hg : wx.grownBy w' v.ownBlock) :
    LSt wb (w'.setCell ⟨gv, 0, none⟩ v') n C us gv B (j + 1) v' (lvs ++ [.slice (some ⟨g, 0, none⟩) (PM.len n C j) c]) := by
  have hne : ∀ k, v.ownBlock = some k → B ≤ k := fun k hk => (owns_lt h.own k hk).1
  have items : ∀ {v2 : Value} {m : Nat} {xs : List Value}, wx.ownsRow B 51 4 v2 m xs → (w'.setCell ⟨gv, 0, none⟩ v').ownsRow B 51 4 v2 m xs := by
    intro v2 m xs h2
    refine owns_heap h2 (fun k hk => ?_)
    have hk2 := owns_lt h2 k hk
    rw [Below.heap_setCell _ _ _ _ (show k ≠ gv by omega)]
    refine hg.block k hk2.2 (fun e => ?_)
    rcases h2.2 with ⟨h3, _⟩ | ⟨g3, cap3, cur3, h3, _, h4, _⟩
    · rw [h3] at hk; simp [Value.ownBlock] at hk
    · rw [h3] at hk
      simp [Value.ownBlock] at hk
      subst hk
      rcases h.own.2 with ⟨h5, _⟩ | ⟨g5, cap5, cur5, h5, _, h6, _⟩
      · rw [h5] at e; simp [Value.ownBlock] at e
      · rw [h5] at e
        simp [Value.ownBlock] at e
        subst e
        rw [h4] at h6
        simp at h6
  refine ⟨?_, ?_, ?_, ?_⟩
  · exact (h.keep.trans (Keeps.of_grown hg (fun k hk => .inr (hne k hk)))).set (.inl rfl) _
  · have hvx : Var w' gv 48 v := h.var.of_heap (hg.block gv h.var.lt (fun e => by have := hne gv e.symm; omega))
    exact hvx.set _
  · refine owns_heap ho (fun k hk => ?_)
    have := (owns_lt ho k hk).1
    exact Below.heap_setCell _ _ _ _ (show k ≠ gv by omega)
  · have hlen : lvs.length = j := by have := h.own.1; omega
    intro l hl
    by_cases e : l < j
    · obtain ⟨g2, c2, h1, h2⟩ := h.lev l e
      exact ⟨g2, c2, by rw [List.getElem?_append_left (by omega)]; exact h1, items h2⟩
    · have : l = j := by omega
      subst this
      exact ⟨g, c, by rw [List.getElem?_append_right (by omega), hlen]; simp, items hq⟩
theorem LSt.start (wb : World) (n : Nat) (C : Nat → Int) (us : List Int) {gv B : Nat} (hv : Var wb gv 48 (.slice none 0 0)) : LSt wb wb n C us gv B 0 (.slice none 0 0) [] :=
  ⟨Keeps.refl _ _, hv, World.ownsRow_nil _ _ _ _, fun l hl => by omega⟩
end Go.Proofs.Qxb6604297a
