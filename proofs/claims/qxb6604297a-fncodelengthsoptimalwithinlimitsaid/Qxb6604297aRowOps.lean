/-
  make, copy, and an argument's slice, in the words of this seat.
-/
import Derived.Test.Qxb6604297aPush
import Derived.Laws.CopyOwn
import Derived.Laws.MakeOwn
namespace Go.Proofs.Qxb6604297a
open Go.ChangeShapes Go.WideShapes Go.ChangeAt Go.RowKit

/-- A new row of n noughts. -/
def zrow (k : IntKind) (n : Nat) : Array Value := ((List.replicate n (0 : Int)).map (Value.int k)).toArray
theorem zrow_row (w : World) (k : IntKind) (e : TypeId) (n : Nat) : Row (w.alloc (.cells (zrow k n) e)) w.heap.size e k (List.replicate n 0) := Blk.alloc_new _ _ _
theorem made_zrow (k : IntKind) (n : Nat) : madeCells (Value.int k 0).cells n = zrow k n := by
  have hc : (Value.int k 0).cells = #[.int k 0] := rfl
  rw [hc]
  apply Array.ext
  · simp [madeCells, zrow]
  · intro i h1 h2
    simp [madeCells, zrow, Nat.mod_one]

theorem make_ints (t e : TypeId) (k : IntKind) (bytes : Nat) (ht : Try.prog.underlying t = some (.slice e)) (hinfo : (Try.prog.info? e).map (fun i => (i.zero, i.size, i.bytes)) = some (some (.int k 0), 1, bytes)) (hby : bytes ≤ 8)
    (l n : Nat) (hl : l ≤ n) (hn : n ≤ 1099511627776) (w : World) :
    (Instr.makeSlice t (.int .i64 (l : Int)) (.int .i64 (n : Int))).run Try.prog w = .ok (.slice (some ⟨w.heap.size, 0, none⟩) l n) (w.alloc (.cells (zrow k n) e)) := by
  obtain ⟨i0, hi, hz0, hz1, hz2⟩ := info_parts hinfo
  have hb : (i0.bytes : Int) * (n : Int) ≤ 281474976710656 := by
    rw [hz2]
    have : bytes * n ≤ 8 * n := Nat.mul_le_mul_right _ hby
    have h2 : ((bytes * n : Nat) : Int) ≤ ((8 * n : Nat) : Int) := by exact_mod_cast this
    rw [Int.natCast_mul] at h2
    omega
  have h := run_make (P := Try.prog) w t e i0 (.int k 0) ht hi hz0 .i64 .i64 (l : Int) (n : Int) (by omega) (by omega) hb (by omega)
  rw [hz1, Nat.mul_one, Int.toNat_natCast, Int.toNat_natCast, made_zrow] at h
  exact h

theorem setRow_size (w : World) (g : Nat) (cs : Array Value) : (w.setRow g cs).heap.size = w.heap.size := by simp [World.setRow]

/-- 'copy(dst, src)' into a row of the call's own, of one and the same length. -/
theorem wpList_copy_row {ops : Array Oper} {rest : List Oper} {o : Oper} {a : Act} {Q : Exit → Act → World → Prop} (w : World) (d s : Operand) (t e : TypeId) (k : IntKind) (bytes : Nat)
    (ht : Try.prog.underlying t = some (.slice e)) (hinfo : (Try.prog.info? e).map (fun i => (i.zero, i.size, i.bytes)) = some (some (.int k 0), 1, bytes)) (hgd : o.guard = none)
    (ho : o.op = .call { callee := .builtin .copy, args := #[d, s], argTypes := #[t, t] }) (g n dc sc : Nat) (sa : Option Addr) (zs ys : List Int)
    (hd : a.eval d = .slice (some ⟨g, 0, none⟩) n dc) (hs : a.eval s = .slice sa n sc) (hrow : Row w g e k zs) (hlz : zs.length = n) (hy : ys.length = n) (hR : Reads w k sa ys)
    (h : ∀ w', Row w' g e k ys → w.grownBy w' (some g) → w'.heap.size = w.heap.size → wpList Try.prog ops Q rest (a.put o.dst (.int .i64 n)) w') :
    wpList Try.prog ops Q (o :: rest) a w := by
  obtain ⟨i0, hi, hz0, hz1, hz2⟩ := info_parts hinfo
  have hsz : (Try.prog.info? e).map (·.size) = some 1 := by simp [hi, hz1]
  by_cases h0 : n = 0
  · subst h0
    have e1 : zs = [] := List.eq_nil_of_length_eq_zero hlz
    have e2 : ys = [] := List.eq_nil_of_length_eq_zero hy
    subst e1 e2
    refine wpList_copy_nothing hgd d s t t ho e ht hsz _ sa 0 dc 0 sc hd hs rfl ?_
    exact h w hrow ⟨rfl, rfl, rfl, Nat.le_refl _, fun _ _ _ => rfl⟩ rfl
  · obtain ⟨b, off, rfl, _, _⟩ := hR 0 (by omega)
    have hcs : ((ys.map (Value.int k)).length) = Nat.min n n := by simp [hy]
    refine wpList_copy_own hgd d s t t ho e ht hsz g 0 n dc ⟨b, off, none⟩ n sc hd hs _ e hrow (ys.map (Value.int k)) hcs ?_ (by simp [hy, hlz]) ?_ ?_
    · intro j v hj
      have hjl : j < ys.length := by
        have := (List.getElem?_eq_some_iff.1 hj).1
        simpa using this
      obtain ⟨b', off', hab, _, hc⟩ := hR j hjl
      simp only [Option.some.injEq, Addr.mk.injEq] at hab
      obtain ⟨rfl, rfl, _⟩ := hab
      have hv : v = .int k (ys.getD j 0) := by
        have h2 : (ys.map (Value.int k))[j]? = some (.int k (ys.getD j 0)) := by simp [hjl]
        rw [h2] at hj
        exact (Option.some.inj hj).symm
      subst hv
      have ha : (⟨b, off, none⟩ : Addr).add j = ⟨b, off + j, none⟩ := by unfold Addr.add; split <;> simp_all
      rw [ha]; exact hc
    · intro v hv
      simp at hv
      obtain ⟨x, _, rfl⟩ := hv
      rfl
    · have hgo : goInt (ys.map (Value.int k)).length = .int .i64 n := by rw [List.length_map, hy]; rfl
      rw [hgo]
      refine h _ ?_ ?_ (setRow_size _ _ _)
      · have hset := setRow_heap w g _ ((((zs.map (Value.int k)).toArray.toList.take 0) ++ (ys.map (Value.int k) ++ ((zs.map (Value.int k)).toArray.toList.drop (0 + (ys.map (Value.int k)).length)))).toArray) e _ hrow
        have e1 : (((zs.map (Value.int k)).toArray.toList.take 0) ++ (ys.map (Value.int k) ++ ((zs.map (Value.int k)).toArray.toList.drop (0 + (ys.map (Value.int k)).length)))) = ys.map (Value.int k) := by
          simp [hy, hlz]
        rw [e1] at hset ⊢
        exact hset
      · exact ⟨rfl, rfl, rfl, by rw [setRow_size]; exact Nat.le_refl _, fun i _ hk => setRow_other w g i _ (fun e => hk (by rw [e]))⟩

/-- WHAT THE WALK IS TOLD OF A SLICE OF INTEGERS THAT CAME IN (the shell's word). -/
def IsRow (k : IntKind) (w : World) (a : Option Addr) (len cap : Nat) (zs : List Int) : Prop :=
  (a = none ∧ len = 0 ∧ cap = 0 ∧ zs = []) ∨
  ∃ x, a = some x ∧ len ≤ cap ∧ cap ≤ maxLen ∧ zs.length = cap ∧ (∀ i, i < zs.length → w.cell? (x.add i) = some (.int k (zs.getD i 0))) ∧ ∀ n ∈ zs, (Lit.int k n).wf = true

/-- Its elements. -/
theorem isRow_reads {k : IntKind} {w : World} {a : Option Addr} {len cap : Nat} {zs : List Int} (h : IsRow k w a len cap zs) : ∃ ys : List Int, ys.length = len ∧ Reads w k a ys ∧ (∀ n ∈ ys, (Lit.int k n).wf = true) ∧ (a = none → len = 0 ∧ cap = 0) := by
  rcases h with ⟨rfl, rfl, rfl, rfl⟩ | ⟨x, rfl, h1, h2, h3, hc, hw⟩
  · exact ⟨[], rfl, Reads.nil _ _ _, by simp, fun _ => ⟨rfl, rfl⟩⟩
  · refine ⟨zs.take len, by simp; omega, ?_, fun n hn => hw n (List.mem_of_mem_take hn), fun h => by cases h⟩
    intro i hi
    have hi2 : i < len ∧ i < zs.length := by simp at hi; omega
    have hcell := hc i hi2.2
    obtain ⟨b, off, spot⟩ := x
    have hspot : spot = none := by simpa [Addr.add] using World.cell?_spot (hc 0 (by omega))
    subst hspot
    have ha : (⟨b, off, none⟩ : Addr).add i = ⟨b, off + i, none⟩ := by unfold Addr.add; split <;> simp_all
    rw [ha] at hcell
    refine ⟨b, off, rfl, ?_, ?_⟩
    · exact World.block_lt_of_cell? w _ hcell
    · rw [hcell]
      simp [hi2.1]
end Go.Proofs.Qxb6604297a
