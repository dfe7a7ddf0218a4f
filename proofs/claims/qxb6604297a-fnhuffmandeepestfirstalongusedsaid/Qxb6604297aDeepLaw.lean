/-
  The walk of FnHuffmanDeepestFirstAlongUsed (6).
-/
import Derived.Test.Qxb6604297aHuffDom2
set_option linter.unusedVariables false
namespace Go.Proofs.Qxb6604297a
open Go.ChangeShapes Go.WideShapes Go.ChangeAt Go.RowKit

theorem Reads.keeps {w w' : World} {k : IntKind} {a : Option Addr} {xs : List Int} {S : Nat → Prop} (h : Reads w k a xs) (hk : Keeps S w w') (hs : ∀ x, a = some x → ¬ S x.block) : Reads w' k a xs := by
  intro i hi
  obtain ⟨b, off, ha, hlt, hc⟩ := h i hi
  exact ⟨b, off, ha, Nat.lt_of_lt_of_le hlt hk.size, (World.cell?_of_block (a := ⟨b, off + i, none⟩) (hk.block b hlt (hs _ ha))).trans hc⟩

set_option maxRecDepth 100000 in
set_option maxHeartbeats 4000000 in
theorem deepLaw (ca ua la : Option Addr) (cc uc lc : Nat) (cs us ls : List Int) (w : World) (hc : Reads w .i64 ca cs) (hu : Reads w .i64 ua us) (hl : Reads w .u8 la ls) (hln : Hid (la = none → ls.length = 0)) :
    Calls Try.prog 6 #[.slice ca cs.length cc, .slice ua us.length uc, .slice la ls.length lc] w fun e w' => e = .returned (.bool true) ∧ Below w.heap.size w w' := by
  by_cases h0 : cs.length ≤ 4096
  · by_cases h1 : us.length ≤ 4096
    · by_cases h2 : ls.length ≤ 4096
      · have d0 : decide ((4096 : Int) < (cs.length : Int)) = false := decide_eq_false (by omega)
        have d1 : decide ((4096 : Int) < (us.length : Int)) = false := decide_eq_false (by omega)
        have d2 : decide ((4096 : Int) < (ls.length : Int)) = false := decide_eq_false (by omega)
        go_enter Try.func6, Try.ntmps6
        go_upto_if 16 with (go_at_call 22; refine (bytes22 _ _ _ _ _ _ _ _ _ _).mono ?_; rintro e w' ⟨b, rfl, rfl⟩)
        cases b with
        | false =>
          go_wp2
          go_ret
          exact ⟨rfl, Below.refl _ _⟩
        | true =>
          go_upto_if 34 with (first | (go_at_call 17; refine (wide_any _).mono ?_; rintro e w' ⟨rfl, rfl⟩) | (go_at_call 18; refine (dom_any cs us _ _ _ _ _ ls.length _ _ hc hu (by omega) (by omega) (by omega)).mono ?_; rintro e w1 ⟨b, rfl, hd, hb⟩))
          cases b with
          | false =>
            go_wp2
            go_ret
            exact ⟨rfl, hb⟩
          | true =>
            have HD : Hid (HDom cs us ls.length) := hd rfl
            clear hd
            have hx0 := HD.out.two
            have hx1 := HD.out.idx 0 (by omega)
            obtain ⟨cb, co, rfl⟩ := hc.addr (by omega)
            obtain ⟨ub, uo, rfl⟩ := hu.addr (by omega)
            obtain ⟨lb, lo, rfl⟩ := hl.addr (by omega)
            clear hx1
            have hneq := fun (w : World) => run_neq_slice_nil_any (P := Try.prog) w 22 3 (some ⟨cb, co, none⟩) cs.length cc 0 0 Try.underlying22
            have hneu := fun (w : World) => run_neq_slice_nil_any (P := Try.prog) w 22 3 (some ⟨ub, uo, none⟩) us.length uc 0 0 Try.underlying22
            have hmk := fun (w : World) => make_ints 22 3 .i64 8 Try.underlying22 Try.info3 (by decide) cs.length cs.length (Nat.le_refl _) (by omega) w
            have hmku := fun (w : World) => make_ints 22 3 .i64 8 Try.underlying22 Try.info3 (by decide) us.length us.length (Nat.le_refl _) (by omega) w
            go_upto_if 36 with fail
            go_cut [0] (fun t wx => ∃ a c', t = .slice a cs.length c' ∧ Reads wx .i64 a cs ∧ Below w1.heap.size w1 wx)
            case first =>
              have hc1 := hc.of_below hb
              go_wp2_with (refine wpList_copy_row _ (.tmp 40) (.tmp 41) 22 3 .i64 8 Try.underlying22 Try.info3 rfl rfl w1.heap.size cs.length cs.length cc _ (List.replicate cs.length 0) cs rfl rfl (zrow_row _ _ _ _) (by simp) rfl (hc1.of_below ((Below.refl _ _).alloc (Nat.le_refl _) _)) ?_; intro w2 hrow hgr hsz)
              go_meet
              case rel => exact ⟨_, _, rfl, hrow.reads, ((Below.refl _ _).alloc (Nat.le_refl _) _).grown hgr (by simp) (fun k hk => by cases hk; exact Nat.le_refl _)⟩
            case rest =>
              obtain ⟨ca', cc', rfl, hc', hb2⟩ := hcut
              have hb12 := hb.trans (hb2.mono hb.size)
              have hu' := hu.of_below hb12
              have hl' := hl.of_below hb12
              clear hc hneq hmk hu hl hb2
              go_upto_if 45 with fail
              go_cut [1] (fun t wx => ∃ a c', t = .slice a us.length c' ∧ Reads wx .i64 a us ∧ Below wc.heap.size wc wx)
              case first =>
                go_wp2_with (refine wpList_copy_row _ (.tmp 49) (.tmp 50) 22 3 .i64 8 Try.underlying22 Try.info3 rfl rfl wc.heap.size us.length us.length uc _ (List.replicate us.length 0) us rfl rfl (zrow_row _ _ _ _) (by simp) rfl (hu'.of_below ((Below.refl _ _).alloc (Nat.le_refl _) _)) ?_; intro w2 hrow hgr hsz)
                go_meet
                case rel => exact ⟨_, _, rfl, hrow.reads, ((Below.refl _ _).alloc (Nat.le_refl _) _).grown hgr (by simp) (fun k hk => by cases hk; exact Nat.le_refl _)⟩
              case rest =>
                obtain ⟨ua', uc', rfl, hu2, hb3⟩ := hcut
                have hc2 := hc'.of_below hb3
                have hl2 := hl'.of_below hb3
                have hb4 := hb12.trans (hb3.mono hb12.size)
                clear hneu hmku hu' hc' hl' hb3 hb12
                have hx1 := HD.out.idx 0 (by omega)
                obtain ⟨cb', co', rfl⟩ := hc2.addr (by omega)
                obtain ⟨ub', uo', rfl⟩ := hu2.addr (by omega)
                have hcb' := (hc2.at (i := 0) (by omega)).1
                have hub' := (hu2.at (i := 0) (by omega)).1
                go_wp2_with (first | (go_at_call 19; refine (clone_any ls _ _ _ hl2 (by omega) (by simp)).mono ?_; rintro e w3 ⟨rfl, hrow, hb5, hs5⟩; have hc3 := hc2.of_below hb5; have hu3 := hu2.of_below hb5) | fail)
                refine (zzhuffman_any cs us ls _ _ _ _ _ wc.heap.size w3 hc3 hu3 hrow (fun x hx => by cases hx; dsimp only; omega) (fun x hx => by cases hx; dsimp only; omega) HD.out h1).mono ?_
                rintro e w4 ⟨W, P, D, L', hT, hdep, rfl, hrowL, hleft, hkeep⟩
                have hu4 : Reads w4 .i64 (some ⟨ub', uo', none⟩) us := hu3.keeps hkeep (fun x hx => by cases hx; dsimp only; omega)
                have hb6 : Below w.heap.size w w4 := (hb4.trans (hb5.mono hb4.size)).trans (hkeep.below (fun k hk e => by have := hb4.size; omega) (by have := hb4.size; omega))
                obtain ⟨l1, l2, l3, l4, l5⟩ := Huff.longest_laws hT hdep hx0
                have hmono : Hid (∀ i, 1 ≤ i → i < us.length → D.getD i 0 ≤ D.getD (i - 1) 0) := fun i h1 h2 => Huff.dep_mono_leaf hT hdep hx0 (Nat.zero_le _) (by omega) h2
                have hbnd : Hid (∀ i, i < us.length → 0 ≤ D.getD i 0 ∧ D.getD i 0 ≤ 101) := fun i hi => ⟨Huff.dep_nonneg hT hdep hx0 i (by omega) (by omega), Huff.dep_bound hT hdep hx0 HD.out.sum (by omega) (by omega)⟩
                have HL : Hid (HLeft us ls L' D 0) := hleft
                have hat : ∀ i, i < us.length → ∃ u : Nat, us.getD i 0 = (u : Int) ∧ u < ls.length ∧ w4.cell? ⟨wc.heap.size, u, none⟩ = some (.int .u8 (D.getD i 0)) := by
                  intro i hi
                  obtain ⟨u, hu1, hu2, hu3, hu4⟩ := idx_nat HD.out hi
                  refine ⟨u, hu1, hu3, ?_⟩
                  rw [hrowL.cell (by rw [hleft.len]; exact hu3)]
                  have := hleft.at_ i (Nat.zero_le _) hi
                  rw [hu1, Int.toNat_natCast] at this
                  rw [this]
                obtain ⟨u0, hu0, hu0l, hq0⟩ := hat 0 (by omega)
                obtain ⟨u1, hu1, hu1l, hq1⟩ := hat 1 (by omega)
                have p0 : w4.cell? ⟨ub', uo', none⟩ = some (.int .i64 u0) := by have := (hu4.at (i := 0) (by omega)).2; rw [hu0] at this; exact this
                have p1 : w4.cell? ⟨ub', uo' + 1, none⟩ = some (.int .i64 u1) := by have := (hu4.at (i := 1) (by omega)).2; rw [hu1] at this; exact this
                have HAT : Hid (∀ i, i < us.length → ∃ u : Nat, us.getD i 0 = (u : Int) ∧ u < ls.length ∧ w4.cell? ⟨wc.heap.size, u, none⟩ = some (.int .u8 (D.getD i 0))) := hat
                rw [l2] at hq1
                obtain ⟨lg, hlg⟩ : ∃ lg, lg = D.getD 0 0 := ⟨_, rfl⟩
                rw [← hlg] at hq0 hq1 l3 l4 l5 ⊢
                have hlg2 : lg ≤ 101 := by rw [hlg]; exact (hbnd.out 0 (by omega)).2
                have L5 : Hid ((us.length : Int) ≤ 2 ^ lg.toNat) := l5
                have l4' : lg ≤ (us.length : Int) - 1 := by omega
                have i0 : (0 : Int) < (us.length : Int) := by omega
                have i1 : (1 : Int) < (us.length : Int) := by omega
                clear hlg l1 l2 l5 hat hu0 hu1 hc2 hu2 hl2 hc3 hu3 hkeep hdep hT hleft hrow hb4 hb5 hx1 l4
                have dl1 : decide (lg < 1) = false := decide_eq_false (by omega)
                have dl2 : decide ((us.length : Int) - 1 < lg) = false := decide_eq_false (by omega)
                go_upto_region 24 with fail
                go_cut [76] (fun t wx => wx = w4 ∧ t = .bool false)
                case first =>
                  by_cases h13 : lg < 13
                  · have hcase : lg = 1 ∨ lg = 2 ∨ lg = 3 ∨ lg = 4 ∨ lg = 5 ∨ lg = 6 ∨ lg = 7 ∨ lg = 8 ∨ lg = 9 ∨ lg = 10 ∨ lg = 11 ∨ lg = 12 := by omega
                    have h5 := L5.out
                    clear L5
                    rcases hcase with rfl | rfl | rfl | rfl | rfl | rfl | rfl | rfl | rfl | rfl | rfl | rfl
                    all_goals
                      simp only [Int.reduceToNat, Int.reducePow] at h5
                      go_wp2
                      go_meet
                      case rel => exact ⟨rfl, congrArg Value.bool (by first | rfl | exact decide_eq_false (by omega))⟩
                  · have d13 : decide (lg < 13) = false := decide_eq_false h13
                    go_wp2
                    go_meet
                    case rel => exact ⟨rfl, rfl⟩
                case rest =>
                  obtain ⟨hwx, rfl⟩ := hcut
                  subst hwx
                  go_wp2
                  go_loopw [11] (fun t wx => ∃ i : Nat, t = .int .i64 i ∧ 1 ≤ i ∧ i ≤ us.length ∧ ∃ nq, wx = wc.drewN nq) (fun t _ => us.length - (intOf t).toNat)
                  case atStart => exact ⟨1, rfl, by omega, by omega, 0, rfl⟩
                  case round =>
                    obtain ⟨i, rfl, hi1, hi2, nq, rfl⟩ := hrel
                    by_cases hlt : i < us.length
                    · obtain ⟨ui, hui, huil, hqi⟩ := HAT.out i hlt
                      obtain ⟨uj, huj, hujl, hqj⟩ := HAT.out (i - 1) (by omega)
                      have e1 : wc.cell? ⟨ub', uo' + i, none⟩ = some (.int .i64 ui) := by have := (hu4.at hlt).2; rw [hui] at this; exact this
                      have e2 : wc.cell? ⟨ub', uo' + (i - 1), none⟩ = some (.int .i64 uj) := by have := (hu4.at (i := i - 1) (by omega)).2; rw [huj] at this; exact this
                      have hle := hmono.out i hi1 hlt
                      have hb1 := hbnd.out i hlt
                      have hb2 := hbnd.out (i - 1) (by omega)
                      obtain ⟨x, hx⟩ : ∃ x, x = D.getD i 0 := ⟨_, rfl⟩
                      obtain ⟨y, hy⟩ : ∃ y, y = D.getD (i - 1) 0 := ⟨_, rfl⟩
                      rw [← hx] at hqi hle hb1
                      rw [← hy] at hqj hle hb2
                      have j1 : (i : Int) < (us.length : Int) := by omega
                      have j2 : (0 : Int) ≤ (i : Int) - 1 := by omega
                      have j2' : (i : Int) - 1 < (us.length : Int) := by omega
                      have j3 : (ui : Int) < (ls.length : Int) := by omega
                      have j4 : (uj : Int) < (ls.length : Int) := by omega
                      have dxy : decide (y < x) = false := decide_eq_false (by omega)
                      clear hx hy hui huj
                      go_wp2
                      go_quiet (fail)
                      go_wp2
                      go_roundw
                      case rel => exact ⟨i + 1, by go_num, by omega, by omega, _, rfl⟩
                      case measure => simp [intOf]; omega
                    · go_wp2
                      go_ret
                      exact ⟨rfl, ⟨hb6.os, hb6.tape, hb6.output, hb6.size, hb6.block⟩⟩
      · go_enter Try.func6, Try.ntmps6
        go_wp2_with (go_at_call 22; refine (bytes22 _ _ _ _ _ _ _ _ _ _).mono ?_; rintro e w' ⟨b, rfl, rfl⟩; cases b)
        all_goals (go_ret; exact ⟨rfl, Below.refl _ _⟩)
    · go_enter Try.func6, Try.ntmps6
      go_wp2_with (go_at_call 22; refine (bytes22 _ _ _ _ _ _ _ _ _ _).mono ?_; rintro e w' ⟨b, rfl, rfl⟩; cases b)
      all_goals (go_ret; exact ⟨rfl, Below.refl _ _⟩)
  · go_enter Try.func6, Try.ntmps6
    go_wp2_with (go_at_call 22; refine (bytes22 _ _ _ _ _ _ _ _ _ _).mono ?_; rintro e w' ⟨b, rfl, rfl⟩; cases b)
    all_goals (go_ret; exact ⟨rfl, Below.refl _ _⟩)
end Go.Proofs.Qxb6604297a
