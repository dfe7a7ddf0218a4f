/-
  The sort's small functions: the comparer (30), swapRange (37), rotate (36), insertionSort (34).
-/
import Derived.Test.Qxb6604297aSortP
import Derived.Test.Qxb6604297aHuffW
set_option linter.unusedVariables false
namespace Go.Proofs.Qxb6604297a
open Go.ChangeShapes Go.WideShapes Go.ChangeAt Go.RowKit

/-- A row of whole numbers at the head of a block; what lies behind it stays. -/
def SRow (w : World) (g : Nat) (X : List Int) : Prop := ∃ rest : List Value, Blk w g 3 (X.map (Value.int .i64) ++ rest)
theorem SRow.lt {w : World} {g : Nat} {X : List Int} (h : SRow w g X) : g < w.heap.size := by obtain ⟨_, h⟩ := h; exact h.lt
theorem SRow.cell {w : World} {g : Nat} {X : List Int} (h : SRow w g X) {i : Nat} (hi : i < X.length) : w.cell? ⟨g, i, none⟩ = some (.int .i64 (X.getD i 0)) := by
  obtain ⟨rest, h⟩ := h
  rw [h.cell, List.getElem?_append_left (by simpa using hi)]
  simp [hi]
theorem SRow.frozen {w : World} {g : Nat} {X : List Int} (h : SRow w g X) (i : Nat) : w.frozen? ⟨g, i, none⟩ = false := by obtain ⟨_, h⟩ := h; exact h.frozen i
theorem SRow.drew {w : World} {g : Nat} {X : List Int} (h : SRow w g X) : SRow w.drew g X := h
theorem SRow.set {w : World} {g : Nat} {X : List Int} (h : SRow w g X) {i : Nat} (hi : i < X.length) (v : Int) : SRow (w.setCell ⟨g, i, none⟩ (.int .i64 v)) g (X.set i v) := by
  obtain ⟨rest, h⟩ := h
  refine ⟨rest, ?_⟩
  have h2 := h.set i (.int .i64 v)
  rw [List.set_append_left _ _ (by simpa using hi), ← List.map_set] at h2
  exact h2
theorem SRow.reads {w : World} {g : Nat} {X : List Int} (h : SRow w g X) : Reads w .i64 (some ⟨g, 0, none⟩) X := by
  intro i hi
  exact ⟨g, 0, rfl, h.lt, by rw [Nat.zero_add]; exact h.cell hi⟩

/-- The counts, in a variable of their own; the sorted row lies in another block. -/
structure SEnv (cs : List Int) (ca : Option Addr) (cc gc g : Nat) (w : World) : Prop where
  var : Var w gc 22 (.slice ca cs.length cc)
  rd : Reads w .i64 ca cs
  ne : gc ≠ g
  nb : ∀ x, ca = some x → x.block ≠ g
theorem SEnv.keeps {cs : List Int} {ca : Option Addr} {cc gc g : Nat} {w w' : World} (h : SEnv cs ca cc gc g w) (hk : Keeps (fun k => k = g) w w') : SEnv cs ca cc gc g w' :=
  ⟨hk.blk h.var h.ne, h.rd.keeps hk h.nb, h.ne, h.nb⟩
theorem SEnv.drewN {cs : List Int} {ca : Option Addr} {cc gc g : Nat} {w : World} (h : SEnv cs ca cc gc g w) (n : Nat) : SEnv cs ca cc gc g (w.drewN n) := h.keeps ((Keeps.refl _ w).drewN n)

def keyOf (cs : List Int) (x : Int) : Int := cs.getD x.toNat 0
/-- A symbol that is counted. -/
def OkSym (cs : List Int) (x : Int) : Prop := 0 ≤ x ∧ x < cs.length ∧ 1 ≤ keyOf cs x ∧ keyOf cs x ≤ 1125899906842624
def AllOk (cs X : List Int) : Prop := ∀ i, i < X.length → OkSym cs (X.getD i 0)
theorem AllOk.dealt {cs X X' : List Int} {a b : Nat} (h : AllOk cs X) (d : Srt.Dealt a b X X') (hb : b ≤ X.length) : AllOk cs X' := by
  intro i hi
  rw [d.len] at hi
  by_cases e : a ≤ i ∧ i < b
  · obtain ⟨j, _, j2, e2⟩ := d.src i e.1 e.2
    rw [e2]; exact h j (by omega)
  · rw [d.out i (by omega)]; exact h i hi

def cmpVal (gc : Nat) : Value := .func (.func 30) #[] #[.pointer (some ⟨gc, 0, none⟩)]

theorem cmp_any (cs : List Int) (ca : Option Addr) (cc gc g : Nat) (x y : Int) (w : World) (env : SEnv cs ca cc gc g w) (hx : OkSym cs x) (hy : OkSym cs y) :
    Calls Try.prog 30 #[.int .i64 x, .int .i64 y, .pointer (some ⟨gc, 0, none⟩)] w fun e w' => e = .returned (.int .i64 (keyOf cs x - keyOf cs y)) ∧ ∃ nq, w' = w.drewN nq := by
  obtain ⟨xn, rfl⟩ := Int.eq_ofNat_of_zero_le hx.1
  obtain ⟨yn, rfl⟩ := Int.eq_ofNat_of_zero_le hy.1
  have hxl : xn < cs.length := by have := hx.2.1; omega
  have hyl : yn < cs.length := by have := hy.2.1; omega
  obtain ⟨b, off, rfl⟩ := env.rd.addr (by omega)
  have q0 := env.var.cell
  have q1 := (env.rd.at hxl).2
  have q2 := (env.rd.at hyl).2
  have i1 : (xn : Int) < (cs.length : Int) := by omega
  have i2 : (yn : Int) < (cs.length : Int) := by omega
  obtain ⟨_, _, h1, h2⟩ := hx
  obtain ⟨_, _, h3, h4⟩ := hy
  have e1 : keyOf cs (xn : Int) = cs.getD xn 0 := by unfold keyOf; rw [Int.toNat_natCast]
  have e2 : keyOf cs (yn : Int) = cs.getD yn 0 := by unfold keyOf; rw [Int.toNat_natCast]
  rw [e1] at h1 h2 ⊢
  rw [e2] at h3 h4 ⊢
  generalize cs.getD xn 0 = kx at *
  generalize cs.getD yn 0 = ky at *
  clear env e1 e2
  go_enter Try.func30, Try.ntmps30
  go_wp2
  go_quiet (fail)
  go_wp2
  go_ret
  exact ⟨rfl, _, rfl⟩

/-- What a sorting step leaves: the row dealt anew inside a .. b-1; nothing else is touched. -/
def SPost (g a b : Nat) (X : List Int) (Q : List Int → Prop) (w : World) (e : Ending) (w' : World) : Prop :=
  e = .returned (.tuple #[]) ∧ ∃ X', Srt.Dealt a b X X' ∧ Q X' ∧ SRow w' g X' ∧ Keeps (fun k => k = g) w w'

theorem row_swp {w : World} {g : Nat} {Y : List Int} (h : SRow w g Y) {p q : Nat} (hp : p < Y.length) (hq : q < Y.length) : SRow ((w.setCell ⟨g, p, none⟩ (.int .i64 (Y.getD q 0))).setCell ⟨g, q, none⟩ (.int .i64 (Y.getD p 0))).drew g (Srt.swp Y p q) :=
  SRow.drew ((h.set hp _).set (by rw [List.length_set]; exact hq) _)

set_option maxRecDepth 100000 in
set_option maxHeartbeats 2000000 in
theorem swapRange_any (g N c a b n : Nat) (X : List Int) (f : Value) (w : World) (hX : SRow w g X) (hN : X.length = N) (hab : a + n ≤ b) (hbN : b + n ≤ N) (hN2 : N ≤ 1048576) :
    Calls Try.prog 37 #[.slice (some ⟨g, 0, none⟩) N c, .int .i64 a, .int .i64 b, .int .i64 n, f] w (SPost g a (b + n) X (fun X' => ∀ i, X'.getD i 0 = Srt.swR (fun u => X.getD u 0) a b n i) w) := by
  go_enter Try.func37, Try.ntmps37
  go_wp2
  go_loopg [10] n (fun k t wx => ∃ (i : Nat) (Y : List Int), n - i ≤ k ∧ t = .int .i64 i ∧ i ≤ n ∧ Hid (Srt.Dealt a (b + n) X Y ∧ ∀ u, Y.getD u 0 = Srt.swR (fun u => X.getD u 0) a b i u) ∧ SRow wx g Y ∧ Keeps (fun k => k = g) w wx)
  case atStart => exact ⟨0, X, by omega, rfl, by omega, ⟨Srt.Dealt.refl _ _ _, fun u => by unfold Srt.swR; rw [if_neg (by omega), if_neg (by omega)]⟩, hX, Keeps.refl _ _⟩
  case round =>
    obtain ⟨i, Y, hk, rfl, hi, HD, hrow, hkeep⟩ := hrel
    by_cases hlt : i < n
    · have hYl : Y.length = N := by rw [HD.out.1.len]; exact hN
      have q1 := hrow.cell (show a + i < Y.length by omega)
      have q2 := hrow.cell (show b + i < Y.length by omega)
      have f1 := hrow.frozen (a + i)
      have f2 := hrow.frozen (b + i)
      have i1 : (a : Int) + (i : Int) < (N : Int) := by omega
      have i2 : (b : Int) + (i : Int) < (N : Int) := by omega
      have hne : ¬ a + i = b + i := by omega
      have hne2 : ¬ b + i = a + i := by omega
      have HYL : Hid (Y.length = N) := hYl
      obtain ⟨x, hx⟩ : ∃ x, x = Y.getD (a + i) 0 := ⟨_, rfl⟩
      obtain ⟨y, hy⟩ : ∃ y, y = Y.getD (b + i) 0 := ⟨_, rfl⟩
      rw [← hx] at q1
      rw [← hy] at q2
      have HXY : Hid (x = Y.getD (a + i) 0 ∧ y = Y.getD (b + i) 0) := ⟨hx, hy⟩
      clear hx hy hYl
      go_wp2
      go_region
      go_wp2
      go_roundg (n - (i + 1))
      case measure => omega
      case rel =>
        refine ⟨i + 1, Srt.swp Y (a + i) (b + i), Nat.le_refl _, by go_num, by omega, ⟨HD.out.1.trans (Srt.dealt_swp (by omega) (by omega) (by omega) (by omega) (by rw [HYL.out]; omega)), ?_⟩, ?_, ((hkeep.set (p := ⟨g, a + i, none⟩) rfl _).set (p := ⟨g, b + i, none⟩) rfl _).drew⟩
        · intro u
          rw [Srt.swp_at Y (by rw [HYL.out]; omega) (by rw [HYL.out]; omega), HD.out.2, HD.out.2, HD.out.2]
          unfold Srt.swR
          repeat' split
          all_goals first | (exfalso; omega) | (congr 1 <;> omega)
        · rw [HXY.out.1, HXY.out.2]; exact row_swp hrow (by rw [HYL.out]; omega) (by rw [HYL.out]; omega)
    · have hin : i = n := by omega
      subst hin
      go_wp2
      go_end0
      exact ⟨rfl, Y, HD.out.1, HD.out.2, hrow, hkeep⟩

/-- rotate: m comes to a. -/
theorem rotate_post {g a m b : Nat} {X Y : List Int} (d : Srt.Dealt a b X Y) (h : ∀ u, Y.getD u 0 = Srt.rotR (fun u => X.getD u 0) a m b u) : Srt.Dealt a b X Y ∧ ∀ u, Y.getD u 0 = Srt.rotR (fun u => X.getD u 0) a m b u := ⟨d, h⟩

set_option maxRecDepth 100000 in
set_option maxHeartbeats 4000000 in
theorem rotate_any (g N c a m b : Nat) (X : List Int) (f : Value) (w : World) (hX : SRow w g X) (hN : X.length = N) (ham : a < m) (hmb : m < b) (hbN : b ≤ N) (hN2 : N ≤ 1048576) :
    Calls Try.prog 36 #[.slice (some ⟨g, 0, none⟩) N c, .int .i64 a, .int .i64 m, .int .i64 b, f] w (SPost g a b X (fun X' => ∀ i, X'.getD i 0 = Srt.rotR (fun u => X.getD u 0) a m b i) w) := by
  obtain ⟨i0, hi0⟩ : ∃ i0, i0 = m - a := ⟨_, rfl⟩
  obtain ⟨j0, hj0⟩ : ∃ j0, j0 = b - m := ⟨_, rfl⟩
  have r1 : (m : Int) - (a : Int) = (i0 : Int) := by omega
  have r2 : (b : Int) - (m : Int) = (j0 : Int) := by omega
  have HIJ : Hid (a = m - i0 ∧ b = m + j0 ∧ i0 ≤ m) := ⟨by omega, by omega, by omega⟩
  have b1 : 0 < i0 := by omega
  have b2 : 0 < j0 := by omega
  have b3 : i0 + j0 ≤ 1048576 := by omega
  clear hi0 hj0
  go_enter Try.func36, Try.ntmps36
  go_wp2
  go_loopg [10, 11] (i0 + j0) (fun k ti tj wx => ∃ (i j : Nat) (Y : List Int), i + j ≤ k ∧ ti = .int .i64 i ∧ tj = .int .i64 j ∧ 0 < i ∧ 0 < j ∧ i ≤ i0 ∧ j ≤ j0 ∧ Hid (Srt.Dealt a b X Y ∧ ∀ u, Srt.rotR (fun u => X.getD u 0) a m b u = Srt.rotR (fun u => Y.getD u 0) (m - i) m (m + j) u) ∧ SRow wx g Y ∧ Keeps (fun k => k = g) w wx)
  case atStart =>
    refine ⟨i0, j0, X, Nat.le_refl _, rfl, rfl, b1, b2, Nat.le_refl _, Nat.le_refl _, ⟨Srt.Dealt.refl _ _ _, ?_⟩, hX, Keeps.refl _ _⟩
    intro u
    rw [← HIJ.out.1, ← HIJ.out.2.1]
  case round =>
    obtain ⟨i, j, Y, hk, rfl, rfl, hi1, hj1, hi2, hj2, HD, hrow, hkeep⟩ := hrel
    have hYl : Y.length = N := by rw [HD.out.1.len]; exact hN
    have HYL : Hid (Y.length = N) := hYl
    obtain ⟨p, hp⟩ : ∃ p, p = m - i := ⟨_, rfl⟩
    have e1 : (m : Int) - (i : Int) = (p : Int) := by have := HIJ.out; omega
    have HP : Hid (p = m - i ∧ i ≤ m) := ⟨hp, by have := HIJ.out; omega⟩
    clear hp hYl
    by_cases hgt : j < i
    · have hneq : ((i : Int) != (j : Int)) = true := by rw [bne_iff_ne]; omega
      obtain ⟨i', hi'⟩ : ∃ i', i' = i - j := ⟨_, rfl⟩
      have e2 : (i : Int) - (j : Int) = (i' : Int) := by omega
      have HI' : Hid (i' = i - j) := hi'
      have hi'0 : 0 < i' := by omega
      have hi'1 : i' + j < i + j := by omega
      have hi'2 : i' ≤ i0 := by omega
      clear hi'
      go_wp2_with fail
      refine (swapRange_any g N c p m j Y f wr hrow HYL.out (by have := HP.out; omega) (by have := HIJ.out; omega) hN2).mono ?_
      rintro e w1 ⟨rfl, Z, hZd, hZ, hrZ, hkZ⟩
      go_wp2
      go_roundg (i' + j)
      case measure => omega
      case rel =>
        refine ⟨i', j, Z, Nat.le_refl _, rfl, rfl, hi'0, hj1, hi'2, hj2, ⟨HD.out.1.trans (hZd.mono (by have := HIJ.out; have := HP.out; omega) (by have := HIJ.out; omega)), ?_⟩, hrZ, hkeep.trans hkZ⟩
        intro u
        rw [HD.out.2 u, Srt.rot_gt _ m i j HP.out.2 hj1 hgt, HI'.out, show m - (i - j) = m - i + j by have := HP.out; omega]
        congr 1
        funext v
        rw [hZ v, HP.out.1]
    · by_cases hlt : i < j
      · have hneq : ((i : Int) != (j : Int)) = true := by rw [bne_iff_ne]; omega
        obtain ⟨j', hj'⟩ : ∃ j', j' = j - i := ⟨_, rfl⟩
        obtain ⟨q, hq⟩ : ∃ q, q = m + j - i := ⟨_, rfl⟩
        have e2 : (j : Int) - (i : Int) = (j' : Int) := by omega
        have e3 : (m : Int) + (j : Int) - (i : Int) = (q : Int) := by omega
        have HJ' : Hid (j' = j - i ∧ q = m + j - i) := ⟨hj', hq⟩
        have hj'0 : 0 < j' := by omega
        have hj'1 : i + j' < i + j := by omega
        have hj'2 : j' ≤ j0 := by omega
        have hmj : m + j ≤ 1048576 := by have := HIJ.out; omega
        clear hj' hq
        go_wp2_with fail
        refine (swapRange_any g N c p q i Y f wr hrow HYL.out (by have := HP.out; have := HJ'.out; omega) (by have := HIJ.out; have := HJ'.out; omega) hN2).mono ?_
        rintro e w1 ⟨rfl, Z, hZd, hZ, hrZ, hkZ⟩
        go_wp2
        go_roundg (i + j')
        case measure => omega
        case rel =>
          refine ⟨i, j', Z, Nat.le_refl _, rfl, rfl, hi1, hj'0, hi2, hj'2, ⟨HD.out.1.trans (hZd.mono (by have := HIJ.out; have := HP.out; omega) (by have := HIJ.out; have := HJ'.out; omega)), ?_⟩, hrZ, hkeep.trans hkZ⟩
          intro u
          rw [HD.out.2 u, Srt.rot_lt _ m i j HP.out.2 hi1 hlt, HJ'.out.1]
          congr 1
          funext v
          rw [hZ v, HP.out.1, HJ'.out.2]
      · have hij : i = j := by omega
        subst hij
        have hneq : ((i : Int) != (i : Int)) = false := by simp
        go_wp2_with fail
        refine (swapRange_any g N c p m i Y f wr hrow HYL.out (by have := HP.out; omega) (by have := HIJ.out; omega) hN2).mono ?_
        rintro e w1 ⟨rfl, Z, hZd, hZ, hrZ, hkZ⟩
        go_wp2
        go_end0
        refine ⟨rfl, Z, HD.out.1.trans (hZd.mono (by have := HIJ.out; have := HP.out; omega) (by have := HIJ.out; omega)), ?_, hrZ, hkeep.trans hkZ⟩
        intro u
        rw [HD.out.2 u, Srt.rot_eq _ m i HP.out.2, hZ u, HP.out.1]
end Go.Proofs.Qxb6604297a
