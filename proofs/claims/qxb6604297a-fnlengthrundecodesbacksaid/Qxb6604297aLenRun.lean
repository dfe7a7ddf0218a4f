import Derived.Test.Qxb6604297aMem
import Derived.Test.Qxb6604297aDec
import Derived.WalkLawsBesides
import Derived.WalkSpells
import Derived.Outline
import Derived.Deep.CutBlock
import Derived.Deep.DeepCutAuto
import Derived.Deep.LoopGhost
namespace Go.Proofs.Qxb6604297a
open Go.ChangeShapes Go.WideShapes Go.ChangeAt Go.RowKit
def syms (xs : List (Int × Int)) : List Value := xs.flatMap fun s => [.int .i64 s.1, .int .i64 s.2]
theorem Try.info45 : (Try.prog.info? 45).map (fun i => (i.zero, i.size, i.bytes)) = some (some (.agg #[.int .i64 0, .int .i64 0]), 2, 16) := by kernel_rfl

theorem syms_len (xs : List (Int × Int)) : (syms xs).length = xs.length * 2 := by
  induction xs with
  | nil => rfl
  | cons s xs ih => simp only [syms, List.flatMap_cons, List.length_append, List.length_cons, List.length_nil] at ih ⊢; omega

theorem wpList_sym {ops : Array Oper} {rest : List Oper} {o : Oper} {a : Act} {Q : Exit → Act → World → Prop} (w0 wr : World) (s x : Operand) (hgd : o.guard = none)
    (ho : o.op = .call { callee := .builtin .append, args := #[s, x], argTypes := #[42, 42] }) (v : Value) (xs : List (Int × Int)) (c e : Int)
    (hs : a.eval s = v) (hown : wr.ownsRow w0.heap.size 45 2 v xs.length (syms xs)) (hx : a.eval x = .slice (some ⟨wr.heap.size, 0, none⟩) 1 1) (hl : xs.length ≤ 1048576) (hb : Below w0.heap.size w0 wr)
    (h : ∀ v' w', w'.ownsRow w0.heap.size 45 2 v' (xs ++ [(c, e)]).length (syms (xs ++ [(c, e)])) → Below w0.heap.size w0 w' → wpList Try.prog ops Q rest (a.put o.dst v') w') :
    wpList Try.prog ops Q (o :: rest) a (wr.alloc (.cells #[.int .i64 c, .int .i64 e] 45)) := by
  obtain ⟨i0, hi, hz0, hz1, hz2⟩ := info_parts Try.info45
  refine wpList_append2 _ hgd s x 42 ho w0.heap.size 45 i0 (.agg #[.int .i64 0, .int .i64 0]) 2 16 Try.underlying42 hi hz0 hz1 hz2 rfl (by decide) v xs.length (syms xs) hs (hown.alloc _) ⟨wr.heap.size, 0, none⟩ 1 1 [.int .i64 c, .int .i64 e] hx rfl (cell_two_new _ _ _ _) ?_ ?_ ?_ ?_ ?_
  · intro u hu
    simp at hu
    rcases hu with rfl | rfl <;> rfl
  · unfold maxLen; omega
  · omega
  · have := hb.size; simp; omega
  · intro v' w' h1 h2 _
    refine h v' w' ?_ ?_
    · have e1 : syms (xs ++ [(c, e)]) = syms xs ++ [.int .i64 c, .int .i64 e] := by simp [syms]
      rw [e1, List.length_append]
      exact h1
    · refine (hb.alloc hb.size _).grown h2 (by have := hb.size; simp; omega) ?_
      intro k hk
      exact ((hown.lt) k hk).1

/-- Where lengthRun stands inside a run: n of its lengths are still to be written. -/
def RunSt (zs : List Int) (r1 r2 r4 : Bool) (w : World) (p q : Nat) (pv : Int → Prop) (t5 t8 : Value) (wr : World) : Prop :=
  ∃ (n : Nat) (xs : List (Int × Int)) (prev : Int), t8 = .int .i64 n ∧ p + n ≤ q ∧ wr.ownsRow w.heap.size 45 2 t5 xs.length (syms xs) ∧ Dec.Inv zs r1 r2 r4 xs (q - n) prev ∧ pv prev ∧ Below w.heap.size w wr

theorem runSt_18 {zs : List Int} {r1 r2 : Bool} {w w1 : World} {p q n r : Nat} {xs : List (Int × Int)} {prev e m : Int} {v' : Value} (HA : Hid (∀ j, p ≤ j → j < q → zs.getD j 0 = 0)) (hq : q ≤ zs.length) (hpn : p + n ≤ q)
    (hinv : Dec.Inv zs r1 r2 true xs (q - n) prev) (hr1 : 11 ≤ r) (hr2 : r ≤ 138) (hrn : r ≤ n) (he : e = (r : Int) - 11) (hm : m = (n : Int) - r)
    (hown : w1.ownsRow w.heap.size 45 2 v' (xs ++ [(18, e)]).length (syms (xs ++ [(18, e)]))) (hb : Below w.heap.size w w1) : RunSt zs r1 r2 true w p q (fun _ => True) v' (.int .i64 m) w1 := by
  subst he hm
  refine ⟨n - r, xs ++ [(18, (r : Int) - 11)], 0, by rw [Int.ofNat_sub hrn], by omega, hown, ?_, trivial, hb⟩
  rw [show q - (n - r) = q - n + r by omega]
  exact Dec.inv_18 hinv (by omega) (fun j h1 h2 => HA.out j (by omega) (by omega)) hr1 hr2
theorem runSt_17 {zs : List Int} {r1 r4 : Bool} {w w1 : World} {p q n r : Nat} {xs : List (Int × Int)} {prev e m : Int} {v' : Value} (HA : Hid (∀ j, p ≤ j → j < q → zs.getD j 0 = 0)) (hq : q ≤ zs.length) (hpn : p + n ≤ q)
    (hinv : Dec.Inv zs r1 true r4 xs (q - n) prev) (hr1 : 3 ≤ r) (hr2 : r ≤ 10) (hrn : r ≤ n) (he : e = (r : Int) - 3) (hm : m = (n : Int) - r)
    (hown : w1.ownsRow w.heap.size 45 2 v' (xs ++ [(17, e)]).length (syms (xs ++ [(17, e)]))) (hb : Below w.heap.size w w1) : RunSt zs r1 true r4 w p q (fun _ => True) v' (.int .i64 m) w1 := by
  subst he hm
  refine ⟨n - r, xs ++ [(17, (r : Int) - 3)], 0, by rw [Int.ofNat_sub hrn], by omega, hown, ?_, trivial, hb⟩
  rw [show q - (n - r) = q - n + r by omega]
  exact Dec.inv_17 hinv (by omega) (fun j h1 h2 => HA.out j (by omega) (by omega)) hr1 hr2
theorem runSt_16 {zs : List Int} {r2 r4 : Bool} {w w1 : World} {p q n r : Nat} {xs : List (Int × Int)} {v e m : Int} {v' : Value} (HA : Hid (∀ j, p ≤ j → j < q → zs.getD j 0 = v)) (hq : q ≤ zs.length) (hpn : p + n ≤ q)
    (hinv : Dec.Inv zs true r2 r4 xs (q - n) v) (h0 : 0 ≤ v) (hr1 : 3 ≤ r) (hr2 : r ≤ 6) (hrn : r ≤ n) (he : e = (r : Int) - 3) (hm : m = (n : Int) - r)
    (hown : w1.ownsRow w.heap.size 45 2 v' (xs ++ [(16, e)]).length (syms (xs ++ [(16, e)]))) (hb : Below w.heap.size w w1) : RunSt zs true r2 r4 w p q (fun x => x = v) v' (.int .i64 m) w1 := by
  subst he hm
  refine ⟨n - r, xs ++ [(16, (r : Int) - 3)], v, by rw [Int.ofNat_sub hrn], by omega, hown, ?_, rfl, hb⟩
  rw [show q - (n - r) = q - n + r by omega]
  exact Dec.inv_16 hinv (by omega) (fun j h1 h2 => HA.out j (by omega) (by omega)) h0 hr1 hr2
theorem runSt_lit {zs : List Int} {r1 r2 r4 : Bool} {w w1 : World} {p q n : Nat} {xs : List (Int × Int)} {prev v m : Int} {v' : Value} (HA : Hid (∀ j, p ≤ j → j < q → zs.getD j 0 = v)) (hq : q ≤ zs.length) (hpn : p + n ≤ q)
    (hinv : Dec.Inv zs r1 r2 r4 xs (q - n) prev) (h0 : 0 ≤ v) (h15 : v ≤ 15) (hn : 1 ≤ n) (hm : m = (n : Int) - 1)
    (hown : w1.ownsRow w.heap.size 45 2 v' (xs ++ [(v, 0)]).length (syms (xs ++ [(v, 0)]))) (hb : Below w.heap.size w w1) : RunSt zs r1 r2 r4 w p q (fun x => x = v) v' (.int .i64 m) w1 := by
  subst hm
  refine ⟨n - 1, xs ++ [(v, 0)], v, by rw [Int.ofNat_sub hn]; rfl, by omega, hown, ?_, rfl, hb⟩
  rw [show q - (n - 1) = q - n + 1 by omega]
  exact Dec.inv_lit hinv (by omega) (HA.out _ (by omega) (by omega)) h0 h15
theorem RunSt.weak {zs : List Int} {r1 r2 r4 : Bool} {w wr : World} {p q : Nat} {pv : Int → Prop} {t5 t8 : Value} (h : RunSt zs r1 r2 r4 w p q pv t5 t8 wr) : RunSt zs r1 r2 r4 w p q (fun _ => True) t5 t8 wr := by
  obtain ⟨n, xs, prev, h1, h2, h3, h4, _, h6⟩ := h
  exact ⟨n, xs, prev, h1, h2, h3, h4, trivial, h6⟩

set_option maxRecDepth 100000 in
set_option maxHeartbeats 2000000 in
theorem lengthRun_any (zs : List Int) (rep : Int) (r1 r2 r4 : Bool) (hr1 : (bits BinOp.and IntKind.i64 rep 1 != 0) = r1) (hr2 : (bits BinOp.and IntKind.i64 rep 2 != 0) = r2) (hr4 : (bits BinOp.and IntKind.i64 rep 4 != 0) = r4)
    (a : Option Addr) (c : Nat) (w : World) (hR : Reads w .u8 a zs) (h15 : Hid (∀ j, 0 ≤ zs.getD j 0 ∧ zs.getD j 0 ≤ 15)) (hn : zs.length ≤ 1048576) :
    Calls Try.prog 28 #[.slice a zs.length c, .int .i64 rep] w fun e w' => ∃ v xs prev, e = .returned v ∧ w'.ownsRow w.heap.size 45 2 v xs.length (syms xs) ∧ Dec.Inv zs r1 r2 r4 xs zs.length prev ∧ Below w.heap.size w w' := by
  go_enter Try.func28, Try.ntmps28
  go_wp2
  go_loopg [5, 6] zs.length (fun k v i wr => ∃ (p : Nat) (xs : List (Int × Int)) (prev : Int), zs.length - p ≤ k ∧ i = .int .i64 p ∧ wr.ownsRow w.heap.size 45 2 v xs.length (syms xs) ∧ Dec.Inv zs r1 r2 r4 xs p prev ∧ Below w.heap.size w wr)
  case atStart => exact ⟨0, [], -1, by omega, rfl, World.ownsRow_nil _ _ _ _, Dec.inv_nil _ _ _ _, Below.refl _ _⟩
  case round =>
    obtain ⟨p, xs, prev, hgk, rfl, hown, hinv, hb⟩ := hrel
    by_cases hlt : p < zs.length
    · obtain ⟨b, off, rfl, hbs, hc⟩ := hR p hlt
      have hcr : wr.cell? ⟨b, off + p, none⟩ = some (.int .u8 (zs.getD p 0)) := (hb.cell (by exact hbs)).trans hc
      obtain ⟨v, hv⟩ : ∃ v, v = zs.getD p 0 := ⟨_, rfl⟩
      have hv0 : 0 ≤ v := hv ▸ (h15.out p).1
      have hv15 : v ≤ 15 := hv ▸ (h15.out p).2
      rw [← hv] at hcr
      have HV : Hid (v = zs.getD p 0) := hv
      clear hv hc
      go_upto_block 2 with fail
      go_cut [8] (fun t wx => wx = wr ∧ ∃ n : Nat, t = .int .i64 n ∧ 1 ≤ n ∧ p + n ≤ zs.length ∧ Hid (∀ j, p ≤ j → j < p + n → zs.getD j 0 = v))
      case first =>
        go_wp2
        go_loop [8] (fun t => ∃ n : Nat, t = .int .i64 n ∧ 1 ≤ n ∧ p + n ≤ zs.length ∧ Hid (∀ j, p ≤ j → j < p + n → zs.getD j 0 = v)) (fun t => zs.length - (intOf t).toNat)
        case atStart => exact ⟨1, rfl, Nat.le_refl _, by omega, fun j h1 h2 => (show j = p by omega) ▸ HV.out.symm⟩
        case round =>
          obtain ⟨n, rfl, hn1, hpn, HA⟩ := hrel
          by_cases hl2 : p + n < zs.length
          · obtain ⟨u, hu⟩ : ∃ u, u = zs.getD (p + n) 0 := ⟨_, rfl⟩
            obtain ⟨b', off', hab, hbs', hc⟩ := hR (p + n) hl2
            simp only [Option.some.injEq, Addr.mk.injEq] at hab
            obtain ⟨rfl, rfl, _⟩ := hab
            have hcr2 : wr.cell? ⟨b, off + (p + n), none⟩ = some (.int .u8 u) := by rw [hu]; exact (hb.cell (by exact hbs)).trans hc
            have HU : Hid (u = zs.getD (p + n) 0) := hu
            clear hu hc
            by_cases he : u = v
            · subst he
              go_wp2
              go_round
              case rel => exact ⟨n + 1, by go_num, by omega, by omega, fun j h1 h2 => if h : j = p + n then h ▸ HU.out.symm else HA.out j h1 (by omega)⟩
              case measure => simp [intOf]; omega
            · have heb : (u == v) = false := beq_eq_false_iff_ne.2 he
              go_wp2
              go_meet
              case rel => exact ⟨rfl, n, rfl, hn1, hpn, HA⟩
          · go_wp2
            go_meet
            case rel => exact ⟨rfl, n, rfl, hn1, hpn, HA⟩
      case rest =>
        obtain ⟨hwc, n0, rfl, hn1, hpn, HA⟩ := hcut
        subst hwc
        obtain ⟨q, hq⟩ : ∃ q, q = p + n0 := ⟨_, rfl⟩
        have e6 : (p : Int) + (n0 : Int) = (q : Int) := by omega
        have hqz : q ≤ zs.length := by omega
        have hqp : p + n0 ≤ q := by omega
        have hst : RunSt zs r1 r2 r4 w p q (fun _ => True) u5 (.int .i64 n0) wc ∧ (v ≠ 0 → 1 ≤ intOf (.int .i64 n0)) := ⟨⟨n0, xs, prev, rfl, by omega, hown, by rw [show q - n0 = p by omega]; exact hinv, trivial, hb⟩, fun _ => by simp [intOf]; omega⟩
        rw [← hq] at HA
        clear hq hcr hown hinv hb
        go_upto_block 4 with fail
        go_cut [5, 8] (fun t5 t8 wx => RunSt zs r1 r2 r4 w p q (fun _ => True) t5 t8 wx ∧ (v ≠ 0 → 1 ≤ intOf t8))
        case first =>
          go_wp2
          go_loopg [5, 8] n0 (fun k t5 t8 wx => (RunSt zs r1 r2 r4 w p q (fun _ => True) t5 t8 wx ∧ (v ≠ 0 → 1 ≤ intOf t8)) ∧ intOf t8 ≤ k)
          case atStart => exact ⟨hst, by simp [intOf]⟩
          case round =>
            obtain ⟨⟨⟨n, xs, prev, rfl, hpn, hown, hinv, _, hb⟩, hv1⟩, hk⟩ := hrel
            simp only [intOf] at hk hv1
            have hex : RunSt zs r1 r2 r4 w p q (fun _ => True) u5 (.int .i64 n) wr ∧ (v ≠ 0 → 1 ≤ intOf (.int .i64 n)) := ⟨⟨n, xs, prev, rfl, hpn, hown, hinv, trivial, hb⟩, by simpa [intOf] using hv1⟩
            have hxl : xs.length ≤ 1048576 := by have := hinv.2; omega
            by_cases hz : v = 0
            · subst hz
              by_cases hn11 : 11 ≤ n
              · cases r4 with
                | false =>
                  go_wp2
                  go_meet
                  case rel => exact hex
                | true =>
                  by_cases h138 : n ≤ 138
                  · go_wp2_with (at_builtin; refine wpList_sym w wr (.tmp 54) (.tmp 58) rfl rfl _ xs 18 _ rfl hown rfl hxl hb ?_; intro v' w1 hown1 hb1)
                    go_roundg 0
                    case measure => omega
                    case rel => exact ⟨⟨runSt_18 HA hqz hpn hinv hn11 h138 (Nat.le_refl _) rfl (by omega) hown1 hb1, fun h => absurd rfl h⟩, by simp [intOf]⟩
                  · go_wp2_with (at_builtin; refine wpList_sym w wr (.tmp 54) (.tmp 58) rfl rfl _ xs 18 _ rfl hown rfl hxl hb ?_; intro v' w1 hown1 hb1)
                    go_roundg (n - 138)
                    case measure => omega
                    case rel => exact ⟨⟨runSt_18 (r := 138) HA hqz hpn hinv (by omega) (by omega) (by omega) (by split <;> omega) (by first | rfl | omega) hown1 hb1, fun h => absurd rfl h⟩, by simp [intOf]; omega⟩
              · go_wp2
                go_meet
                case rel => exact hex
            · go_wp2
              go_meet
              case rel => exact hex
        case rest =>
          go_upto_block 6 with fail
          go_cut [5, 8] (fun t5 t8 wx => RunSt zs r1 r2 r4 w p q (fun _ => True) t5 t8 wx ∧ (v ≠ 0 → 1 ≤ intOf t8))
          case first =>
            go_wp2
            go_loopg [5, 8] (intOf u8).toNat (fun k t5 t8 wx => (RunSt zs r1 r2 r4 w p q (fun _ => True) t5 t8 wx ∧ (v ≠ 0 → 1 ≤ intOf t8)) ∧ intOf t8 ≤ k)
            case atStart => exact ⟨hcut, by omega⟩
            case round =>
              obtain ⟨⟨⟨n, xs, prev, rfl, hpn, hown, hinv, _, hb⟩, hv1⟩, hk⟩ := hrel
              simp only [intOf] at hk hv1
              have hex : RunSt zs r1 r2 r4 w p q (fun _ => True) u5 (.int .i64 n) wr ∧ (v ≠ 0 → 1 ≤ intOf (.int .i64 n)) := ⟨⟨n, xs, prev, rfl, hpn, hown, hinv, trivial, hb⟩, by simpa [intOf] using hv1⟩
              have hxl : xs.length ≤ 1048576 := by have := hinv.2; omega
              by_cases hz : v = 0
              · subst hz
                by_cases hn3 : 3 ≤ n
                · cases r2 with
                  | false =>
                    go_wp2
                    go_meet
                    case rel => exact hex
                  | true =>
                    by_cases h10 : n ≤ 10
                    · go_wp2_with (at_builtin; refine wpList_sym w wr (.tmp 76) (.tmp 80) rfl rfl _ xs 17 _ rfl hown rfl hxl hb ?_; intro v' w1 hown1 hb1)
                      go_roundg 0
                      case measure => omega
                      case rel => exact ⟨⟨runSt_17 HA hqz hpn hinv hn3 h10 (Nat.le_refl _) (by first | rfl | (split <;> omega)) (by omega) hown1 hb1, fun h => absurd rfl h⟩, by simp [intOf]⟩
                    · go_wp2_with (at_builtin; refine wpList_sym w wr (.tmp 76) (.tmp 80) rfl rfl _ xs 17 _ rfl hown rfl hxl hb ?_; intro v' w1 hown1 hb1)
                      go_roundg (n - 10)
                      case measure => omega
                      case rel => exact ⟨⟨runSt_17 (r := 10) HA hqz hpn hinv (by omega) (by omega) (by omega) (by split <;> omega) (by first | rfl | omega) hown1 hb1, fun h => absurd rfl h⟩, by simp [intOf]; omega⟩
                · go_wp2
                  go_meet
                  case rel => exact hex
              · go_wp2
                go_meet
                case rel => exact hex
          case rest =>
            obtain ⟨wd, hwd⟩ : ∃ wd, wd = wc := ⟨_, rfl⟩
            subst hwd
            have hst2 := hcut
            clear hcut hst
            go_upto_region 14 with fail
            go_cut [91] (fun t wx => wx = wd ∧ ∃ bb : Bool, t = .bool bb ∧ (bb = true → v ≠ 0 ∧ r1 = true))
            case first =>
              by_cases hz : v = 0
              · subst hz
                go_wp2
                go_meet
                case rel => exact ⟨rfl, false, rfl, fun h => by cases h⟩
              · go_wp2
                go_meet
                case rel => exact ⟨rfl, _, rfl, fun h => ⟨hz, by simp at h; exact h.2⟩⟩
            case rest =>
              obtain ⟨hwd, bb, rfl, hbb⟩ := hcut
              subst hwd
              go_upto_if 91 with fail
              go_cut [5, 8] (fun t5 t8 wx => RunSt zs r1 r2 r4 w p q (fun _ => True) t5 t8 wx)
              case first =>
                cases bb with
                | false =>
                  go_wp2
                  go_meet
                  case rel => exact hst2.1
                | true =>
                  obtain ⟨hz, rfl⟩ := hbb rfl
                  obtain ⟨⟨n, xs, prev, rfl, hpn, hown, hinv, _, hb⟩, hv1⟩ := hst2
                  have hn1 : 1 ≤ n := by have := hv1 hz; simp [intOf] at this; omega
                  have hxl : xs.length ≤ 1048576 := by have := hinv.2; omega
                  clear hv1 hbb
                  go_wp2_with (at_builtin; refine wpList_sym w wc (.tmp 92) (.tmp 96) rfl rfl _ xs _ 0 rfl hown rfl hxl hb ?_; intro v' w1 hown1 hb1)
                  have hst3 : RunSt zs true r2 r4 w p q (fun x => x = v) v' (.int .i64 ((n : Int) - 1)) w1 := runSt_lit HA hqz hpn hinv hv0 hv15 hn1 rfl hown1 hb1
                  clear hown1 hb1 hown hinv hb
                  go_loopg [5, 8] n (fun k t5 t8 wx => RunSt zs true r2 r4 w p q (fun x => x = v) t5 t8 wx ∧ intOf t8 ≤ k)
                  case atStart => exact ⟨hst3, by simp [intOf]; omega⟩
                  case round =>
                    obtain ⟨⟨n, xs, prev, rfl, hpn, hown, hinv, hpv, hb⟩, hk⟩ := hrel
                    subst hpv
                    simp only [intOf] at hk
                    have hxl : xs.length ≤ 1048576 := by have := hinv.2; omega
                    by_cases hn3 : 3 ≤ n
                    · by_cases h6 : n ≤ 6
                      · go_wp2_with (at_builtin; refine wpList_sym w wr (.tmp 104) (.tmp 108) rfl rfl _ xs 16 _ rfl hown rfl hxl hb ?_; intro v' w1 hown1 hb1)
                        go_roundg 0
                        case measure => omega
                        case rel => exact ⟨runSt_16 HA hqz hpn hinv hv0 hn3 h6 (Nat.le_refl _) (by first | rfl | (split <;> omega)) (by omega) hown1 hb1, by simp [intOf]⟩
                      · go_wp2_with (at_builtin; refine wpList_sym w wr (.tmp 104) (.tmp 108) rfl rfl _ xs 16 _ rfl hown rfl hxl hb ?_; intro v' w1 hown1 hb1)
                        go_roundg (n - 6)
                        case measure => omega
                        case rel => exact ⟨runSt_16 (r := 6) HA hqz hpn hinv hv0 (by omega) (by omega) (by omega) (by first | rfl | (split <;> omega)) (by first | rfl | omega) hown1 hb1, by simp [intOf]; omega⟩
                    · go_wp2
                      go_meet
                      case rel => exact ⟨n, xs, prev, rfl, hpn, hown, hinv, trivial, hb⟩
              case rest =>
                go_wp2
                go_loopg [5, 8] (intOf u8).toNat (fun k t5 t8 wx => RunSt zs r1 r2 r4 w p q (fun _ => True) t5 t8 wx ∧ intOf t8 ≤ k)
                case atStart => exact ⟨hcut, by omega⟩
                case round =>
                  obtain ⟨⟨n, xs, prev, rfl, hpn, hown, hinv, _, hb⟩, hk⟩ := hrel
                  simp only [intOf] at hk
                  have hxl : xs.length ≤ 1048576 := by have := hinv.2; omega
                  by_cases hn1 : 1 ≤ n
                  · go_wp2_with (at_builtin; refine wpList_sym w wr (.tmp 117) (.tmp 121) rfl rfl _ xs _ 0 rfl hown rfl hxl hb ?_; intro v' w1 hown1 hb1)
                    go_roundg (n - 1)
                    case measure => omega
                    case rel => exact ⟨(runSt_lit HA hqz hpn hinv hv0 hv15 hn1 rfl hown1 hb1).weak, by simp [intOf]; omega⟩
                  · have hn0 : n = 0 := by omega
                    subst hn0
                    go_wp2
                    go_roundg (zs.length - q)
                    case measure => omega
                    case rel => exact ⟨q, xs, prev, Nat.le_refl _, rfl, hown, hinv, hb⟩
    · go_wp2
      go_ret
      exact ⟨u5, xs, prev, rfl, hown, (show p = zs.length by have := hinv.2.2; omega) ▸ hinv, hb⟩
end Go.Proofs.Qxb6604297a
