/-
  The walks of huffman's closure 'lightest' (32).
-/
import Derived.Test.Qxb6604297aHuffD
import Derived.Test.Qxb6604297aRowOps
import Derived.Deep.QuietTactic
import Derived.BigQuiet
import Derived.RegionTactic
import Derived.BigRegion
set_option linter.unusedVariables false
namespace Go.Proofs.Qxb6604297a
open Go.ChangeShapes Go.WideShapes Go.ChangeAt Go.RowKit

/-- w' is w but for the blocks of S (and new ones). -/
structure Keeps (S : Nat → Prop) (w w' : World) : Prop where
  os : w'.os = w.os
  tape : w'.tape = w.tape
  output : w'.output = w.output
  size : w.heap.size ≤ w'.heap.size
  block : ∀ k, k < w.heap.size → ¬ S k → w'.heap[k]? = w.heap[k]?
theorem Keeps.refl (S : Nat → Prop) (w : World) : Keeps S w w := ⟨rfl, rfl, rfl, Nat.le_refl _, fun _ _ _ => rfl⟩
theorem Keeps.trans {S : Nat → Prop} {a b c : World} (h : Keeps S a b) (k : Keeps S b c) : Keeps S a c :=
  ⟨k.os.trans h.os, k.tape.trans h.tape, k.output.trans h.output, Nat.le_trans h.size k.size, fun i hi hs => (k.block i (Nat.lt_of_lt_of_le hi h.size) hs).trans (h.block i hi hs)⟩
theorem Keeps.drewN {S : Nat → Prop} {a w : World} (h : Keeps S a w) (n : Nat) : Keeps S a (w.drewN n) := ⟨h.os, h.tape, h.output, h.size, h.block⟩
theorem Keeps.drew {S : Nat → Prop} {a w : World} (h : Keeps S a w) : Keeps S a w.drew := ⟨h.os, h.tape, h.output, h.size, h.block⟩
theorem Keeps.set {S : Nat → Prop} {a w : World} (h : Keeps S a w) {p : Addr} (hp : S p.block) (u : Value) : Keeps S a (w.setCell p u) :=
  h.trans ⟨rfl, rfl, rfl, by simp [World.setCell], fun k hk hs => Below.heap_setCell _ _ _ _ (fun e => hs (e ▸ hp))⟩
theorem Keeps.alloc {S : Nat → Prop} {a w : World} (h : Keeps S a w) (o : Obj) : Keeps S a (w.alloc o) :=
  h.trans ⟨rfl, rfl, rfl, by simp, fun k hk hs => Below.heap_alloc _ _ _ hk⟩
theorem Keeps.mono {S S' : Nat → Prop} {a b : World} (h : Keeps S a b) (hs : ∀ k, S k → S' k) : Keeps S' a b := ⟨h.os, h.tape, h.output, h.size, fun k hk hn => h.block k hk (fun e => hn (hs k e))⟩
theorem Keeps.below {S : Nat → Prop} {w w' : World} {B : Nat} (h : Keeps S w w') (hs : ∀ k, k < B → ¬ S k) (hB : B ≤ w.heap.size) : Below B w w' :=
  ⟨h.os, h.tape, h.output, h.size, fun k hk => h.block k (Nat.lt_of_lt_of_le hk hB) (hs k hk)⟩
theorem Keeps.blk {S : Nat → Prop} {w w' : World} (h : Keeps S w w') {g : Nat} {e : TypeId} {xs : List Value} (hb : Blk w g e xs) (hs : ¬ S g) : Blk w' g e xs := hb.of_heap (h.block g hb.lt hs)
theorem Keeps.row {S : Nat → Prop} {w w' : World} (h : Keeps S w w') {g : Nat} {e : TypeId} {k : IntKind} {xs : List Int} (hb : Row w g e k xs) (hs : ¬ S g) : Row w' g e k xs := h.blk hb hs
theorem Keeps.of_grown {S : Nat → Prop} {w w' : World} {row : Option Nat} (h : w.grownBy w' row) (hs : ∀ k, row = some k → S k) : Keeps S w w' :=
  ⟨h.os, h.tape, h.output, h.size, fun k hk hn => h.block k hk (fun e => hn (hs k e.symm))⟩
theorem Keeps.of_below {S : Nat → Prop} {w w' : World} {B : Nat} (h : Below B w w') (hs : ∀ k, B ≤ k → S k) : Keeps S w w' :=
  ⟨h.os, h.tape, h.output, h.size, fun k hk hn => h.block k (Nat.lt_of_not_le fun e => hn (hs k e))⟩

theorem Reads.at {w : World} {k : IntKind} {xs : List Int} {b off : Nat} (h : Reads w k (some ⟨b, off, none⟩) xs) {i : Nat} (hi : i < xs.length) : b < w.heap.size ∧ w.cell? ⟨b, off + i, none⟩ = some (.int k (xs.getD i 0)) := by
  obtain ⟨b', off', hab, h1, h2⟩ := h i hi
  simp only [Option.some.injEq, Addr.mk.injEq] at hab
  obtain ⟨rfl, rfl, _⟩ := hab
  exact ⟨h1, h2⟩
theorem Reads.addr {w : World} {k : IntKind} {xs : List Int} {a : Option Addr} (h : Reads w k a xs) (hi : 0 < xs.length) : ∃ b off, a = some ⟨b, off, none⟩ := by
  obtain ⟨b, off, ha, _⟩ := h 0 hi
  exact ⟨b, off, ha⟩

theorem Reads.keeps {w w' : World} {k : IntKind} {a : Option Addr} {xs : List Int} {S : Nat → Prop} (h : Reads w k a xs) (hk : Keeps S w w') (hs : ∀ x, a = some x → ¬ S x.block) : Reads w' k a xs := by
  intro i hi
  obtain ⟨b, off, ha, hlt, hc⟩ := h i hi
  exact ⟨b, off, ha, Nat.lt_of_lt_of_le hlt hk.size, (World.cell?_of_block (a := ⟨b, off + i, none⟩) (hk.block b hlt (hs _ ha))).trans hc⟩

/-- A variable in a block of its own. -/
def Var (w : World) (g : Nat) (e : TypeId) (v : Value) : Prop := Blk w g e [v]
theorem Var.cell {w : World} {g : Nat} {e : TypeId} {v : Value} (h : Var w g e v) : w.cell? ⟨g, 0, none⟩ = some v := by rw [Blk.cell h]; rfl
theorem Var.frozen {w : World} {g : Nat} {e : TypeId} {v : Value} (h : Var w g e v) : w.frozen? ⟨g, 0, none⟩ = false := Blk.frozen h 0
theorem Var.lt {w : World} {g : Nat} {e : TypeId} {v : Value} (h : Var w g e v) : g < w.heap.size := Blk.lt h
theorem Var.set {w : World} {g : Nat} {e : TypeId} {v : Value} (h : Var w g e v) (u : Value) : Var (w.setCell ⟨g, 0, none⟩ u) g e u := Blk.set h 0 u
theorem Var.set_other {w : World} {g : Nat} {e : TypeId} {v : Value} (h : Var w g e v) {a : Addr} (hne : g ≠ a.block) (u : Value) : Var (w.setCell a u) g e v := Blk.set_other h hne u

theorem lightest (made n leaf tree gl gn gt gw gW N : Nat) (W : List Int) (w : World) (hl : Var w gl 3 (.int .i64 leaf)) (hn : Var w gn 3 (.int .i64 n)) (ht : Var w gt 3 (.int .i64 tree)) (hw : Var w gw 22 (.slice (some ⟨gW, 0, none⟩) N N))
    (hW : Row w gW 3 .i64 W) (hN : W.length = N) (hlt : gl ≠ gt) (hb1 : leaf ≤ 1048576) (hb2 : tree ≤ 1048576) (hnN : n ≤ N) (htm : tree ≤ made) (hmN : made ≤ N) (hN2 : N ≤ 1048576) {x l t : Nat} (hp : Huff.pick n made W leaf tree = (x, l, t)) :
    Calls Try.prog 32 #[.int .i64 made, .pointer (some ⟨gl, 0, none⟩), .pointer (some ⟨gn, 0, none⟩), .pointer (some ⟨gt, 0, none⟩), .pointer (some ⟨gw, 0, none⟩)] w
      fun e w' => e = .returned (.int .i64 x) ∧ Var w' gl 3 (.int .i64 l) ∧ Var w' gt 3 (.int .i64 t) ∧ Keeps (fun k => k = gl ∨ k = gt) w w' := by
  have c1 := hl.cell
  have c2 := hn.cell
  have c3 := ht.cell
  have c4 := hw.cell
  have f1 := hl.frozen
  have f3 := ht.frozen
  unfold Huff.pick at hp
  have HL : Hid (Var w gl 3 (.int .i64 leaf)) := hl
  have HT : Hid (Var w gt 3 (.int .i64 tree)) := ht
  have leafEnd : ∀ nq, Var ((w.drewN nq).setCell ⟨gl, 0, none⟩ (.int .i64 ((leaf : Int) + 1))) gl 3 (.int .i64 ((leaf + 1 : Nat) : Int)) ∧ Var ((w.drewN nq).setCell ⟨gl, 0, none⟩ (.int .i64 ((leaf : Int) + 1))) gt 3 (.int .i64 tree) ∧ Keeps (fun k => k = gl ∨ k = gt) w ((w.drewN nq).setCell ⟨gl, 0, none⟩ (.int .i64 ((leaf : Int) + 1))) :=
    fun nq => ⟨Var.set (w := w.drewN nq) hl _, Var.set_other (w := w.drewN nq) ht (fun e => hlt e.symm) _, ((Keeps.refl _ w).drewN nq).set (.inl rfl) _⟩
  have treeEnd : ∀ nq, Var ((w.drewN nq).setCell ⟨gt, 0, none⟩ (.int .i64 ((tree : Int) + 1))) gl 3 (.int .i64 leaf) ∧ Var ((w.drewN nq).setCell ⟨gt, 0, none⟩ (.int .i64 ((tree : Int) + 1))) gt 3 (.int .i64 ((tree + 1 : Nat) : Int)) ∧ Keeps (fun k => k = gl ∨ k = gt) w ((w.drewN nq).setCell ⟨gt, 0, none⟩ (.int .i64 ((tree : Int) + 1))) :=
    fun nq => ⟨Var.set_other (w := w.drewN nq) hl hlt _, Var.set (w := w.drewN nq) ht _, ((Keeps.refl _ w).drewN nq).set (.inr rfl) _⟩
  have HLE : Hid (∀ nq, Var ((w.drewN nq).setCell ⟨gl, 0, none⟩ (.int .i64 ((leaf : Int) + 1))) gl 3 (.int .i64 ((leaf + 1 : Nat) : Int)) ∧ Var ((w.drewN nq).setCell ⟨gl, 0, none⟩ (.int .i64 ((leaf : Int) + 1))) gt 3 (.int .i64 tree) ∧ Keeps (fun k => k = gl ∨ k = gt) w ((w.drewN nq).setCell ⟨gl, 0, none⟩ (.int .i64 ((leaf : Int) + 1)))) := leafEnd
  have HTE : Hid (∀ nq, Var ((w.drewN nq).setCell ⟨gt, 0, none⟩ (.int .i64 ((tree : Int) + 1))) gl 3 (.int .i64 leaf) ∧ Var ((w.drewN nq).setCell ⟨gt, 0, none⟩ (.int .i64 ((tree : Int) + 1))) gt 3 (.int .i64 ((tree + 1 : Nat) : Int)) ∧ Keeps (fun k => k = gl ∨ k = gt) w ((w.drewN nq).setCell ⟨gt, 0, none⟩ (.int .i64 ((tree : Int) + 1)))) := treeEnd
  clear leafEnd treeEnd hl ht hw hn HL HT
  by_cases h1 : leaf < n
  · have h1d : decide ((leaf : Int) < (n : Int)) = true := decide_eq_true (by omega)
    have q1 := hW.cell (show leaf < W.length by omega)
    by_cases h2 : tree = made
    · have h2d : ((tree : Int) == (made : Int)) = true := beq_iff_eq.2 (by omega)
      rw [if_pos ⟨h1, .inl h2⟩] at hp
      simp only [Prod.mk.injEq] at hp
      obtain ⟨rfl, rfl, rfl⟩ := hp
      clear hW
      go_enter Try.func32, Try.ntmps32
      go_wp2
      go_quiet (fail)
      go_wp2
      go_ret
      exact ⟨rfl, HLE.out _⟩
    · have h2d : ((tree : Int) == (made : Int)) = false := beq_eq_false_iff_ne.2 (by omega)
      have q2 := hW.cell (show tree < W.length by omega)
      have hln : (leaf : Int) < (N : Int) := by omega
      have htn : (tree : Int) < (N : Int) := by omega
      by_cases h3 : W.getD leaf 0 ≤ W.getD tree 0
      · rw [if_pos ⟨h1, .inr h3⟩] at hp
        simp only [Prod.mk.injEq] at hp
        obtain ⟨rfl, rfl, rfl⟩ := hp
        clear hW
        generalize W.getD leaf 0 = wl at *
        generalize W.getD tree 0 = wt at *
        have h3d : decide (wl ≤ wt) = true := decide_eq_true h3
        go_enter Try.func32, Try.ntmps32
        go_wp2
        go_quiet (fail)
        go_wp2
        go_ret
        exact ⟨rfl, HLE.out _⟩
      · rw [if_neg (fun e => e.2.elim h2 h3)] at hp
        simp only [Prod.mk.injEq] at hp
        obtain ⟨rfl, rfl, rfl⟩ := hp
        clear hW
        generalize W.getD leaf 0 = wl at *
        generalize W.getD tree 0 = wt at *
        have h3d : decide (wl ≤ wt) = false := decide_eq_false h3
        go_enter Try.func32, Try.ntmps32
        go_wp2
        go_quiet (fail)
        go_wp2
        go_ret
        exact ⟨rfl, HTE.out _⟩
  · have h1d : decide ((leaf : Int) < (n : Int)) = false := decide_eq_false (by omega)
    rw [if_neg (fun e => h1 e.1)] at hp
    simp only [Prod.mk.injEq] at hp
    obtain ⟨rfl, rfl, rfl⟩ := hp
    clear hW
    go_enter Try.func32, Try.ntmps32
    go_wp2
    go_quiet (fail)
    go_wp2
    go_ret
    exact ⟨rfl, HTE.out _⟩
end Go.Proofs.Qxb6604297a
