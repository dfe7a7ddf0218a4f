/-
  'xs = append(xs, c)' of one whole number, on a slice of the call's own: the law in the words of this seat.
-/
import Derived.Test.Qxb6604297aMem
import Derived.WalkLawsBesides
import Derived.WalkSpells
import Derived.Outline
import Derived.Deep.CutBlock
import Derived.Deep.DeepCutAuto
import Derived.Deep.LoopGhost
namespace Go.Proofs.Qxb6604297a
open Go.ChangeShapes Go.WideShapes Go.ChangeAt Go.RowKit

theorem Try.info3 : (Try.prog.info? 3).map (fun i => (i.zero, i.size, i.bytes)) = some (some (.int .i64 0), 1, 8) := by kernel_rfl
theorem Try.info2 : (Try.prog.info? 2).map (fun i => (i.zero, i.size, i.bytes)) = some (some (.int .i64 0), 1, 8) := by kernel_rfl
theorem Try.info5 : (Try.prog.info? 5).map (fun i => (i.zero, i.size, i.bytes)) = some (some (.int .u8 0), 1, 1) := by kernel_rfl

theorem grown_of_alloc {w w' : World} {o : Obj} {row : Option Nat} (h : (w.alloc o).grownBy w' row) : w.grownBy w' row :=
  ⟨h.os, h.tape, h.output, Nat.le_trans (by simp) h.size, fun k hk hne => (h.block k (by simp; omega) hne).trans (Below.heap_alloc w o k hk)⟩
theorem fresh_of_alloc {w : World} {o : Obj} {v v' : Value} (h : FreshOr (w.alloc o) v v') : FreshOr w v v' := by
  rcases h with h | h
  · exact .inl h
  · exact .inr fun g hg => by have := h g hg; simp at this; omega

/-- The ints of an owned slice. -/
def Owns (w : World) (B : Nat) (e : TypeId) (k : IntKind) (v : Value) (xs : List Int) : Prop := w.ownsRow B e 1 v xs.length (xs.map (Value.int k))
theorem Owns.nil (w : World) (B : Nat) (e : TypeId) (k : IntKind) : Owns w B e k (.slice none 0 0) [] := World.ownsRow_nil _ _ _ _
theorem Owns.lt {w : World} {B : Nat} {e : TypeId} {k : IntKind} {v : Value} {xs : List Int} (h : Owns w B e k v xs) : ∀ g, v.ownBlock = some g → B ≤ g ∧ g < w.heap.size := World.ownsRow.lt h
theorem Owns.kept {w w' : World} {B : Nat} {e : TypeId} {k : IntKind} {v : Value} {xs : List Int} {row : Option Nat} (h : Owns w B e k v xs) (hg : w.grownBy w' row) (hne : v.ownBlock = none ∨ v.ownBlock ≠ row) : Owns w' B e k v xs := World.ownsRow.kept h hg hne
theorem Owns.alloc {w : World} {B : Nat} {e : TypeId} {k : IntKind} {v : Value} {xs : List Int} (h : Owns w B e k v xs) (o : Obj) : Owns (w.alloc o) B e k v xs := World.ownsRow.alloc h o
theorem Owns.base {w : World} {B B' : Nat} {e : TypeId} {k : IntKind} {v : Value} {xs : List Int} (h : Owns w B e k v xs) (hB : B' ≤ B) : Owns w B' e k v xs := by
  refine ⟨h.1, ?_⟩
  rcases h.2 with h2 | ⟨g, cap, cur, hv, hg, r⟩
  · exact .inl h2
  · exact .inr ⟨g, cap, cur, hv, Nat.le_trans hB hg, r⟩
/-- What an owned slice reads. -/
theorem Owns.reads {w : World} {B : Nat} {e : TypeId} {k : IntKind} {v : Value} {xs : List Int} (h : Owns w B e k v xs) : ∃ a c, v = .slice a xs.length c ∧ Reads w k a xs ∧ (∀ g, v.ownBlock = some g → B ≤ g) := by
  rcases h.2 with ⟨rfl, hn⟩ | ⟨g, cap, cur, rfl, hb, hg, hnc, hcm, hcs, htake⟩
  · have : xs = [] := List.eq_nil_of_length_eq_zero hn
    subst this
    exact ⟨none, 0, rfl, Reads.nil _ _ _, fun g hg => by simp [Value.ownBlock] at hg⟩
  · refine ⟨_, cap, rfl, ?_, fun g' hg' => (h.lt g' hg').1⟩
    intro i hi
    refine ⟨g, 0, rfl, (Array.getElem?_eq_some_iff.1 hg).1, ?_⟩
    have hc := World.ownsRow.cells h (g := g) rfl i (.int k (xs.getD i 0)) (by simp [hi])
    have ha : (⟨g, 0, none⟩ : Addr).add i = ⟨g, 0 + i, none⟩ := by unfold Addr.add; split <;> simp_all
    rw [ha] at hc
    exact hc

theorem Reads.keep {w w' : World} {k : IntKind} {a : Option Addr} {xs : List Int} {B : Nat} (h : Reads w k a xs) (hb : Below B w w') (hB : ∀ x, a = some x → x.block < B) : Reads w' k a xs := by
  intro i hi
  obtain ⟨b, off, ha, hlt, hc⟩ := h i hi
  exact ⟨b, off, ha, Nat.lt_of_lt_of_le hlt hb.size, (hb.cell (p := ⟨b, off + i, none⟩) (hB ⟨b, off, none⟩ ha)).trans hc⟩

theorem wpList_push {ops : Array Oper} {rest : List Oper} {o : Oper} {a : Act} {Q : Exit → Act → World → Prop} (B : Nat) (wr : World) (s x : Operand) (t e : TypeId) (k : IntKind) (bytes : Nat)
    (ht : Try.prog.underlying t = some (.slice e)) (hinfo : (Try.prog.info? e).map (fun i => (i.zero, i.size, i.bytes)) = some (some (.int k 0), 1, bytes)) (hby : bytes ≤ 8) (hgd : o.guard = none)
    (ho : o.op = .call { callee := .builtin .append, args := #[s, x], argTypes := #[t, t] }) (v : Value) (xs : List Int) (c : Int)
    (hs : a.eval s = v) (hown : Owns wr B e k v xs) (b : Nat) (hbw : wr.heap.size = b) (hx : a.eval x = .slice (some ⟨b, 0, none⟩) 1 1) (hl : xs.length ≤ 1099511627776) (hB : B ≤ wr.heap.size)
    (h : ∀ v' w', Owns w' B e k v' (xs ++ [c]) → wr.grownBy w' v.ownBlock → FreshOr wr v v' → wpList Try.prog ops Q rest (a.put o.dst v') w') :
    wpList Try.prog ops Q (o :: rest) a (wr.alloc (.cells #[.int k c] e)) := by
  subst hbw
  obtain ⟨i0, hi, hz0, hz1, hz2⟩ := info_parts hinfo
  refine wpList_append2 _ hgd s x t ho B e i0 (.int k 0) 1 bytes ht hi hz0 hz1 hz2 rfl (by decide) v xs.length (xs.map (Value.int k)) hs (World.ownsRow.alloc hown _) ⟨wr.heap.size, 0, none⟩ 1 1 [.int k c] hx rfl (cell_one_new _ _ _) ?_ ?_ ?_ ?_ ?_
  · intro u hu
    simp at hu
    subst hu
    rfl
  · unfold maxLen; omega
  · have : (xs.length + 1) * bytes ≤ (xs.length + 1) * 8 := Nat.mul_le_mul_left _ hby
    omega
  · simp; omega
  · intro v' w' h1 h2 h3
    refine h v' w' ?_ (grown_of_alloc h2) (fresh_of_alloc h3)
    unfold Owns
    rw [List.length_append, List.map_append]
    exact h1

/-- Two slices of the call's own lie in blocks of their own. -/
def Parted (v u : Value) : Prop := ∀ g, v.ownBlock = some g → u.ownBlock ≠ some g
theorem Parted.symm {v u : Value} (h : Parted v u) : Parted u v := fun g hu hv => h g hv hu
theorem Parted.keeps {v u : Value} (h : Parted v u) : u.ownBlock = none ∨ u.ownBlock ≠ v.ownBlock := by
  cases hu : u.ownBlock with
  | none => exact .inl rfl
  | some g => exact .inr fun e => h g e.symm hu
theorem Parted.fresh {w : World} {v v' u : Value} (h : Parted v u) (hf : FreshOr w v v') (hlt : ∀ g, u.ownBlock = some g → g < w.heap.size) : Parted v' u := by
  intro g hg hu
  rcases hf with hf | hf
  · exact h g (hf ▸ hg) hu
  · have := hf g hg
    have := hlt g hu
    omega
end Go.Proofs.Qxb6604297a
