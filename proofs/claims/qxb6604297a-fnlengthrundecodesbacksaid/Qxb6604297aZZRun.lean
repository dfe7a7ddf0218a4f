import Derived.Test.Qxb6604297aLenRun
import Derived.Test.Qxb6604297aPush
namespace Go.Proofs.Qxb6604297a
open Go.ChangeShapes Go.WideShapes Go.ChangeAt Go.RowKit

theorem syms_at (xs : List (Int × Int)) (i : Nat) (h : i < xs.length) : (syms xs)[i * 2]? = some (.int .i64 (xs.getD i (0, 0)).1) ∧ (syms xs)[i * 2 + 1]? = some (.int .i64 (xs.getD i (0, 0)).2) := by
  induction xs generalizing i with
  | nil => simp at h
  | cons s xs ih =>
    cases i with
    | zero => simp [syms]
    | succ i =>
      have h1 := ih i (by simpa using h)
      have e : syms (s :: xs) = .int .i64 s.1 :: .int .i64 s.2 :: syms xs := rfl
      rw [e, show (i + 1) * 2 = i * 2 + 1 + 1 by omega]
      simpa using h1

theorem syms_reads {w : World} {B : Nat} {v : Value} {xs : List (Int × Int)} (h : w.ownsRow B 45 2 v xs.length (syms xs)) : ∃ a c, v = .slice a xs.length c ∧
    ∀ i, i < xs.length → ∃ g, a = some ⟨g, 0, none⟩ ∧ g < w.heap.size ∧ w.cell? ⟨g, i * 2, none⟩ = some (.int .i64 (xs.getD i (0, 0)).1) ∧ w.cell? ⟨g, i * 2 + 1, none⟩ = some (.int .i64 (xs.getD i (0, 0)).2) := by
  rcases h.2 with ⟨rfl, hn⟩ | ⟨g, cap, cur, rfl, hb, hg, hnc, hcm, hcs, htake⟩
  · have : xs = [] := List.eq_nil_of_length_eq_zero hn
    subst this
    exact ⟨none, 0, rfl, fun i hi => by simp at hi⟩
  · refine ⟨_, cap, rfl, ?_⟩
    intro i hi
    have hadd : ∀ j, (⟨g, 0, none⟩ : Addr).add j = ⟨g, j, none⟩ := fun j => by unfold Addr.add; split <;> simp_all
    have h1 := World.ownsRow.cells h (g := g) rfl (i * 2) _ (syms_at xs i hi).1
    have h2 := World.ownsRow.cells h (g := g) rfl (i * 2 + 1) _ (syms_at xs i hi).2
    rw [hadd] at h1 h2
    exact ⟨g, rfl, (Array.getElem?_eq_some_iff.1 hg).1, h1, h2⟩

theorem take_map_snoc (f : Int × Int → Int) (xs : List (Int × Int)) (j : Nat) {x : Int} (h : j < xs.length) (hx : f (xs.getD j (0, 0)) = x) : (xs.take (j + 1)).map f = (xs.take j).map f ++ [x] := by
  rw [List.take_succ_eq_append_getElem h, List.map_append]
  rw [List.getD_eq_getElem?_getD, List.getElem?_eq_getElem h, Option.getD_some] at hx
  simp [hx]

set_option maxRecDepth 100000 in
set_option maxHeartbeats 2000000 in
theorem zzRun_any (zs : List Int) (rep : Int) (r1 r2 r4 : Bool) (hr1 : (bits BinOp.and IntKind.i64 rep 1 != 0) = r1) (hr2 : (bits BinOp.and IntKind.i64 rep 2 != 0) = r2) (hr4 : (bits BinOp.and IntKind.i64 rep 4 != 0) = r4)
    (a : Option Addr) (c : Nat) (w : World) (hR : Reads w .u8 a zs) (h15 : Hid (∀ j, 0 ≤ zs.getD j 0 ∧ zs.getD j 0 ≤ 15)) (hn : zs.length ≤ 1048576) :
    Calls Try.prog 24 #[.slice a zs.length c, .int .i64 rep] w fun e w' => ∃ v u xs prev, e = .returned (.tuple #[v, u]) ∧ Owns w' w.heap.size 3 .i64 v (xs.map (·.1)) ∧ Owns w' w.heap.size 3 .i64 u (xs.map (·.2)) ∧ Dec.Inv zs r1 r2 r4 xs zs.length prev ∧ Below w.heap.size w w' := by
  go_enter Try.func24, Try.ntmps24
  go_wp2_with (go_at_call 28; refine (lengthRun_any zs rep r1 r2 r4 hr1 hr2 hr4 a c w hR h15 hn).mono ?_; rintro e w1 ⟨rv, xs, prev, rfl, hown, hinv, hb⟩; obtain ⟨ra, rc, hrv, hsy⟩ := syms_reads hown; subst hrv)
  have hxl : xs.length ≤ 1048576 := by have := hinv.2; omega
  go_loopg [4, 5, 14] xs.length (fun k v u i wr => ∃ j : Nat, xs.length - j ≤ k ∧ i = .int .i64 j ∧ j ≤ xs.length ∧ Owns wr w1.heap.size 3 .i64 v ((xs.take j).map (·.1)) ∧ Owns wr w1.heap.size 3 .i64 u ((xs.take j).map (·.2)) ∧ Parted v u ∧ Below w1.heap.size w1 wr)
  case atStart => exact ⟨0, by omega, rfl, by omega, Owns.nil _ _ _ _, Owns.nil _ _ _ _, fun g hg => by simp [Value.ownBlock] at hg, Below.refl _ _⟩
  case round =>
    obtain ⟨j, hk, rfl, hj, ho1, ho2, hpt, hb1⟩ := hrel
    by_cases hlt : j < xs.length
    · obtain ⟨g, rfl, hg, hc1, hc2⟩ := hsy j hlt
      obtain ⟨x1, x2, hx⟩ : ∃ x1 x2, xs.getD j (0, 0) = (x1, x2) := ⟨_, _, rfl⟩
      rw [hx] at hc1 hc2
      have hd1 : wr.cell? ⟨g, j * 2, none⟩ = some (.int .i64 x1) := (hb1.cell (by exact hg)).trans hc1
      have hd2 : wr.cell? ⟨g, j * 2 + 1, none⟩ = some (.int .i64 x2) := (hb1.cell (by exact hg)).trans hc2
      have HX : Hid (xs.getD j (0, 0) = (x1, x2)) := hx
      have HO1 : Hid (Owns wr w1.heap.size 3 .i64 u4 ((xs.take j).map (·.1))) := ho1
      have HO2 : Hid (Owns wr w1.heap.size 3 .i64 u5 ((xs.take j).map (·.2))) := ho2
      clear hx hc1 hc2 ho1 ho2 hown hinv
      have hsz := hb1.size
      have HL : Hid (((xs.take j).map (·.1)).length ≤ 1099511627776 ∧ ((xs.take j).map (·.2)).length ≤ 1099511627776) := by constructor <;> simp <;> omega
      go_wp2_with (first
        | (at_builtin; refine wpList_push w1.heap.size _ (.tmp 18) (.tmp 21) 22 3 .i64 8 Try.underlying22 Try.info3 (by decide) rfl rfl _ _ _ rfl (HO1.out.alloc _) _ (by simp) rfl HL.out.1 (by simp; omega) ?_; intro v1 w2 hp1 hgr1 hfr1; have hq : w2.cell? ⟨wr.heap.size, 1, none⟩ = some (.int .i64 x2) := hgr1.cell (a := ⟨wr.heap.size, 1, none⟩) (by simp) (fun e => by have := (HO1.out.lt _ e.symm).2; simp at this))
        | (at_builtin; refine wpList_push w1.heap.size w2 (.tmp 23) (.tmp 26) 22 3 .i64 8 Try.underlying22 Try.info3 (by decide) rfl rfl _ _ _ rfl ((HO2.out.alloc _).kept hgr1 hpt.keeps) _ rfl rfl HL.out.2 (by have := hgr1.size; simp at this; omega) ?_; intro v2 w3 hp2 hgr2 hfr2))
      have hq1 := hgr1.size
      simp at hq1
      have P1 : Parted v1 u5 := hpt.fresh hfr1 (fun g hg => by have := (HO2.out.lt g hg).2; simp; omega)
      have P2 : Parted v1 v2 := (P1.symm.fresh hfr2 (fun g hg => (hp1.lt g hg).2)).symm
      have hp1' := hp1.kept hgr2 P1.symm.keeps
      have hb3 : Below w1.heap.size w1 w3 := ((hb1.alloc hb1.size _).grown hgr1 (by simp; omega) (fun k hk => (HO1.out.lt k hk).1)).grown hgr2 (by omega) (fun k hk => (HO2.out.lt k hk).1)
      have e1 : (xs.take (j + 1)).map (·.1) = (xs.take j).map (·.1) ++ [x1] := take_map_snoc (·.1) xs j hlt (by rw [HX.out])
      have e2 : (xs.take (j + 1)).map (·.2) = (xs.take j).map (·.2) ++ [x2] := take_map_snoc (·.2) xs j hlt (by rw [HX.out])
      go_roundg (xs.length - (j + 1))
      case measure => omega
      case rel => exact ⟨j + 1, Nat.le_refl _, by go_num, by omega, by rw [e1]; exact hp1', by rw [e2]; exact hp2, P2, hb3⟩
    · have hje : j = xs.length := by omega
      go_wp2
      go_ret2
      subst hje
      rw [List.take_length] at ho1 ho2
      exact ⟨u4, u5, xs, prev, rfl, ho1.base hb.size, ho2.base hb.size, hinv, hb.trans (hb1.mono hb.size)⟩
end Go.Proofs.Qxb6604297a
