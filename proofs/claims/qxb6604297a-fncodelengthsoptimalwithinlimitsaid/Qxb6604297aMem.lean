/-
  Memory words of this seat: a block of the call's own, written out whole.
-/
import Derived.Test.Qxb6604297aRows
import Derived.WalkKit
import Derived.ProofKit
import Derived.Below
import Derived.Deep.Draws
namespace Go.Proofs.Qxb6604297a
open Go.ChangeShapes Go.WideShapes Go.ChangeAt Go.RowKit

/-- Block g is a row of cells of element type e, holding just the values xs; nothing of it is frozen. -/
def Blk (w : World) (g : Nat) (e : TypeId) (xs : List Value) : Prop := w.heap[g]? = some (.cells xs.toArray e (0, 0))

theorem Blk.lt {w : World} {g : Nat} {e : TypeId} {xs : List Value} (h : Blk w g e xs) : g < w.heap.size :=
  (Array.getElem?_eq_some_iff.1 h).1
theorem Blk.cell {w : World} {g : Nat} {e : TypeId} {xs : List Value} (h : Blk w g e xs) (i : Nat) : w.cell? ⟨g, i, none⟩ = xs[i]? := by
  unfold Blk at h
  simp [World.cell?, h]
theorem Blk.frozen {w : World} {g : Nat} {e : TypeId} {xs : List Value} (h : Blk w g e xs) (i : Nat) : w.frozen? ⟨g, i, none⟩ = false := by
  unfold Blk at h
  simp [World.frozen?, h]
theorem Blk.of_heap {w w' : World} {g : Nat} {e : TypeId} {xs : List Value} (h : Blk w g e xs) (hh : w'.heap[g]? = w.heap[g]?) : Blk w' g e xs := by
  unfold Blk at h ⊢; rw [hh]; exact h
theorem Blk.alloc {w : World} {g : Nat} {e : TypeId} {xs : List Value} (h : Blk w g e xs) (o : Obj) : Blk (w.alloc o) g e xs :=
  h.of_heap (Below.heap_alloc w o g h.lt)
theorem Blk.alloc_new (w : World) (e : TypeId) (xs : List Value) : Blk (w.alloc (.cells xs.toArray e)) w.heap.size e xs := heap_alloc_new w _
theorem Blk.drew {w : World} {g : Nat} {e : TypeId} {xs : List Value} (h : Blk w g e xs) : Blk w.drew g e xs := h
theorem Blk.drewN {w : World} {g : Nat} {e : TypeId} {xs : List Value} (h : Blk w g e xs) (n : Nat) : Blk (w.drewN n) g e xs := h
theorem Blk.grown {w w' : World} {g : Nat} {e : TypeId} {xs : List Value} {row : Option Nat} (h : Blk w g e xs) (hg : w.grownBy w' row) (hne : some g ≠ row) : Blk w' g e xs :=
  h.of_heap (hg.block g h.lt hne)
theorem Blk.below {w w' : World} {g B : Nat} {e : TypeId} {xs : List Value} (h : Blk w g e xs) (hb : Below B w w') (hg : g < B) : Blk w' g e xs :=
  h.of_heap (hb.block g hg)
theorem Blk.set_other {w : World} {g : Nat} {e : TypeId} {xs : List Value} (h : Blk w g e xs) {a : Addr} (hne : g ≠ a.block) (v : Value) : Blk (w.setCell a v) g e xs :=
  h.of_heap (Below.heap_setCell w a v g hne)
theorem Blk.set {w : World} {g : Nat} {e : TypeId} {xs : List Value} (h : Blk w g e xs) (i : Nat) (v : Value) : Blk (w.setCell ⟨g, i, none⟩ v) g e (xs.set i v) := by
  unfold Blk at h ⊢
  have hlt := (Array.getElem?_eq_some_iff.1 h).1
  have he := (Array.getElem?_eq_some_iff.1 h).2
  simp only [World.setCell, Array.getElem?_modify, if_true]
  rw [h]
  simp

/-- A row of whole numbers of one kind. -/
def Row (w : World) (g : Nat) (e : TypeId) (k : IntKind) (xs : List Int) : Prop := Blk w g e (xs.map (Value.int k))
theorem Row.lt {w : World} {g : Nat} {e : TypeId} {k : IntKind} {xs : List Int} (h : Row w g e k xs) : g < w.heap.size := Blk.lt h
theorem Row.cell {w : World} {g : Nat} {e : TypeId} {k : IntKind} {xs : List Int} (h : Row w g e k xs) {i : Nat} (hi : i < xs.length) : w.cell? ⟨g, i, none⟩ = some (.int k (xs.getD i 0)) := by
  rw [Blk.cell h]; simp [hi]
theorem Row.frozen {w : World} {g : Nat} {e : TypeId} {k : IntKind} {xs : List Int} (h : Row w g e k xs) (i : Nat) : w.frozen? ⟨g, i, none⟩ = false := Blk.frozen h i
theorem Row.alloc {w : World} {g : Nat} {e : TypeId} {k : IntKind} {xs : List Int} (h : Row w g e k xs) (o : Obj) : Row (w.alloc o) g e k xs := Blk.alloc h o
theorem Row.grown {w w' : World} {g : Nat} {e : TypeId} {k : IntKind} {xs : List Int} {row : Option Nat} (h : Row w g e k xs) (hg : w.grownBy w' row) (hne : some g ≠ row) : Row w' g e k xs := Blk.grown h hg hne
theorem Row.below {w w' : World} {g B : Nat} {e : TypeId} {k : IntKind} {xs : List Int} (h : Row w g e k xs) (hb : Below B w w') (hg : g < B) : Row w' g e k xs := Blk.below h hb hg
theorem Row.set_other {w : World} {g : Nat} {e : TypeId} {k : IntKind} {xs : List Int} (h : Row w g e k xs) {a : Addr} (hne : g ≠ a.block) (v : Value) : Row (w.setCell a v) g e k xs := Blk.set_other h hne v
theorem Row.set {w : World} {g : Nat} {e : TypeId} {k : IntKind} {xs : List Int} (h : Row w g e k xs) (i : Nat) (v : Int) : Row (w.setCell ⟨g, i, none⟩ (.int k v)) g e k (xs.set i v) := by
  unfold Row at h ⊢
  rw [List.map_set]
  exact Blk.set h i _

/-- What a slice value reads: xs are its elements (whole numbers of kind k), in world w. -/
def Reads (w : World) (k : IntKind) (a : Option Addr) (xs : List Int) : Prop :=
  ∀ i, i < xs.length → ∃ b off, a = some ⟨b, off, none⟩ ∧ b < w.heap.size ∧ w.cell? ⟨b, off + i, none⟩ = some (.int k (xs.getD i 0))

theorem Reads.of_below {w w' : World} {k : IntKind} {a : Option Addr} {xs : List Int} (h : Reads w k a xs) (hb : Below w.heap.size w w') : Reads w' k a xs := by
  intro i hi
  obtain ⟨b, off, ha, hlt, hc⟩ := h i hi
  exact ⟨b, off, ha, Nat.lt_of_lt_of_le hlt hb.size, (hb.cell (by exact hlt)).trans hc⟩
theorem Row.reads {w : World} {g : Nat} {e : TypeId} {k : IntKind} {xs : List Int} (h : Row w g e k xs) : Reads w k (some ⟨g, 0, none⟩) xs := by
  intro i hi
  exact ⟨g, 0, rfl, h.lt, by rw [Nat.zero_add]; exact h.cell hi⟩
theorem Reads.nil (w : World) (k : IntKind) (a : Option Addr) : Reads w k a [] := by intro i hi; simp at hi

/-- Two appended slices never come to share a block: where the new value lies. -/
def FreshOr (w : World) (v v' : Value) : Prop := v'.ownBlock = v.ownBlock ∨ ∀ g, v'.ownBlock = some g → w.heap.size ≤ g

theorem append_own {P : Program} (w : World) (base : Nat) (t ty e : TypeId) (i : TypeInfo) (z : Value) (size bytes : Nat) (ht : P.underlying t = some (.slice e)) (hi : P.info? e = some i) (hz : i.zero = some z)
    (hsize : i.size = size) (hby : i.bytes = bytes) (hzs : z.cells.size = size) (hsz : 0 < size)
    (v : Value) (n : Nat) (xs : List Value) (hown : w.ownsRow base e size v n xs)
    (a : Addr) (m c : Nat) (news : List Value) (hl : news.length = m * size) (hnews : ∀ j u, news[j]? = some u → w.cell? (a.add j) = some u) (h1 : ∀ u ∈ news, u.oneCell' = true)
    (h63 : n + m ≤ maxLen) (hbytes : (n + m) * bytes ≤ 140737488355328) (hbase : base ≤ w.heap.size) :
    ∃ v' w', (Builtin.append_ #[t, t] ty #[v, .slice (some a) m c]).run P w = .ok v' w' ∧ w'.ownsRow base e size v' (n + m) (xs ++ news) ∧ w.grownBy w' v.ownBlock ∧ FreshOr w v v' := by
  obtain ⟨v', w', hr, h2, h3, _⟩ := run_append_own (P := P) w base t ty e i z size bytes ht hi hz hsize hby hzs hsz v n xs hown a m c news hl hnews h1 h63 hbytes hbase
  refine ⟨v', w', hr, h2, h3, ?_⟩
  subst hsize
  subst hby
  have hsmall : n + m ≤ 9223372036854775807 := by simp only [maxLen] at h63; omega
  rcases hown.2 with ⟨rfl, rfl⟩ | ⟨g, cap, cur, rfl, hbg, hg, hnc, hcm, hcs, htake⟩
  · by_cases hm : m = 0
    · subst hm
      have hn : news = [] := List.eq_nil_of_length_eq_zero (by simpa using hl)
      subst hn
      have hr2 : (Builtin.append_ #[t, t] ty #[.slice none 0 0, .slice (some a) 0 c]).run P w = .ok (.slice none 0 0) w := by
        simp [Builtin.append_, run_underlying ht, sizeOf, typeInfo, hi, Builtin.lenOf, Builtin.firstCells, loadCells, loadCellsFrom]
      rw [hr2] at hr
      simp only [Result.ok.injEq] at hr
      exact .inl (by rw [← hr.1])
    · have hr2 := run_append_nil (P := P) w t ty e i z ht hi hz a m c news hl hnews (by omega) (by omega) (by have hb := hbytes; simp only [Nat.zero_add] at hb; omega)
      rw [hr2] at hr
      simp only [Result.ok.injEq] at hr
      refine .inr fun g' hg' => ?_
      rw [← hr.1] at hg'
      simp [Value.ownBlock] at hg'
      omega
  · by_cases hroom : n + m ≤ cap
    · have hfit : n * i.size + news.length ≤ cur.size := by rw [hl, hcs, ← Nat.add_mul]; exact Nat.mul_le_mul_right _ hroom
      have hr2 := run_append_room (P := P) w t ty e i ht hi g n cap cur hg a m c news hl hnews h1 hroom hfit
      rw [hr2] at hr
      simp only [Result.ok.injEq] at hr
      exact .inl (by rw [← hr.1]; rfl)
    · have holds : ∀ j u, xs[j]? = some u → w.cell? ((⟨g, 0, none⟩ : Addr).add j) = some u := hown.cells (g := g) rfl
      have hr2 := run_append_grow (P := P) w t ty e i z ht hi hz ⟨g, 0, none⟩ n cap xs hown.1 holds a m c news hl hnews (by omega) (by omega) (growslice_fits (by omega) hbytes)
      rw [hr2] at hr
      simp only [Result.ok.injEq] at hr
      refine .inr fun g' hg' => ?_
      rw [← hr.1] at hg'
      simp [Value.ownBlock] at hg'
      omega

theorem wpList_append2 {P : Program} (w : World) {ops : Array Oper} {rest : List Oper} {o : Oper} {a : Act} {Q : Exit → Act → World → Prop} (hgd : o.guard = none) (s x : Operand) (t : TypeId)
    (ho : o.op = .call { callee := .builtin .append, args := #[s, x], argTypes := #[t, t] })
    (base : Nat) (e : TypeId) (i : TypeInfo) (z : Value) (size bytes : Nat) (ht : P.underlying t = some (.slice e)) (hi : P.info? e = some i) (hz : i.zero = some z)
    (hsize : i.size = size) (hby : i.bytes = bytes) (hzs : z.cells.size = size) (hsz : 0 < size)
    (v : Value) (n : Nat) (xs : List Value) (hs : a.eval s = v) (hown : w.ownsRow base e size v n xs)
    (ad : Addr) (m c : Nat) (news : List Value) (hx : a.eval x = .slice (some ad) m c) (hl : news.length = m * size) (hnews : ∀ j u, news[j]? = some u → w.cell? (ad.add j) = some u) (h1 : ∀ u ∈ news, u.oneCell' = true)
    (h63 : n + m ≤ maxLen) (hbytes : (n + m) * bytes ≤ 140737488355328) (hbase : base ≤ w.heap.size)
    (h : ∀ v' w', w'.ownsRow base e size v' (n + m) (xs ++ news) → w.grownBy w' v.ownBlock → FreshOr w v v' → wpList P ops Q rest (a.put o.dst v') w') : wpList P ops Q (o :: rest) a w := by
  refine wpList_plain hgd fun K hK => ?_
  obtain ⟨v', w', hr, h2, h3, h4⟩ := append_own (P := P) w base t o.type e i z size bytes ht hi hz hsize hby hzs hsz v n xs hown ad m c news hl hnews h1 h63 hbytes hbase
  unfold Oper.wp execOp
  simp only [ho, resolve, invoke, builtin, Sem.run_bind, Sem.run_pure, Result.andThen_ok, List.map_toArray, List.map_cons, List.map_nil, hs, hx, hr]
  exact hK _ _ (h v' w' h2 h3 h4)
end Go.Proofs.Qxb6604297a
