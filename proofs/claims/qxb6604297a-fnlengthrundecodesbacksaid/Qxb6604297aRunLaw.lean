/-
  The walk of FnLengthRunDecodesBack.
-/
import Derived.Test.Qxb6604297aZZRun
import Derived.Test.Qxb6604297aRowOps
import Derived.Deep.QuietTactic
import Derived.BigQuiet
import Derived.OpenShut
namespace Go.Proofs.Qxb6604297a
open Go.ChangeShapes Go.WideShapes Go.ChangeAt Go.RowKit

theorem bytes23 (a : Option Addr) (n c : Nat) (x : Int) (w : World) (hn : n ≤ 1048576) :
    Calls Try.prog 23 #[.slice a n c, .int .i64 x] w fun e w' => e = .returned (.bool true) ∧ w = w' := by
  go_enter Try.func23, Try.ntmps23
  go_wp2
  go_ret
  exact ⟨rfl, rfl⟩
theorem bytes23f (a : Option Addr) (n c : Nat) (x : Int) (w : World) (hn : 1048576 < n) :
    Calls Try.prog 23 #[.slice a n c, .int .i64 x] w fun e w' => e = .returned (.bool false) ∧ w = w' := by
  go_enter Try.func23, Try.ntmps23
  go_wp2
  go_ret
  exact ⟨rfl, rfl⟩

theorem u8_bound {ys : List Int} (hwf : Hid (∀ n ∈ ys, (Lit.int .u8 n).wf = true)) (H15 : Hid (∀ m, m < ys.length → ys.getD m 0 ≤ 15)) : Hid (∀ j, 0 ≤ ys.getD j 0 ∧ ys.getD j 0 ≤ 15) := by
  intro j
  by_cases hj : j < ys.length
  · refine ⟨?_, H15.out j hj⟩
    rw [List.getD_eq_getElem?_getD, List.getElem?_eq_getElem hj, Option.getD_some]
    have h := hwf.out _ (List.getElem_mem hj)
    exact (bounds_u8 h).1
  · rw [List.getD_eq_getElem?_getD, List.getElem?_eq_none (by omega)]
    simp

theorem below_drewN' {B : Nat} {a w : World} (h : Below B a w) (n : Nat) : Below B a (w.drewN n) := ⟨h.os, h.tape, h.output, h.size, h.block⟩
theorem map_getD (f : Int × Int → Int) (xs : List (Int × Int)) (j : Nat) (hf : f (0, 0) = 0) : (xs.map f).getD j 0 = f (xs.getD j (0, 0)) := by
  simp only [List.getD_eq_getElem?_getD, List.getElem?_map]
  cases xs[j]? with
  | none => simp [hf]
  | some x => simp

set_option maxRecDepth 100000 in
set_option maxHeartbeats 4000000 in
theorem runLaw (a : Option Addr) (cap : Nat) (rep : Int) (ys : List Int) (w : World) (hR : Reads w .u8 a ys) (hwf : Hid (∀ n ∈ ys, (Lit.int .u8 n).wf = true)) (hnil : Hid (a = none → ys.length = 0 ∧ cap = 0)) :
    Calls Try.prog 7 #[.slice a ys.length cap, .int .i64 rep] w fun e w' => e = .returned (.bool true) ∧ Below w.heap.size w w' := by
  by_cases hn : ys.length ≤ 1048576
  · have hneq := fun (w : World) => run_neq_slice_nil_any (P := Try.prog) w 26 5 a ys.length cap 0 0 Try.underlying26
    have hmk := fun (w : World) => make_ints 26 5 .u8 1 Try.underlying26 Try.info5 (by decide) ys.length ys.length (Nat.le_refl _) (by omega) w
    go_enter Try.func7, Try.ntmps7
    go_upto_if 27 with (go_at_call 23; refine (bytes23 _ _ _ _ _ hn).mono ?_; rintro e w' ⟨rfl, rfl⟩)
    go_cut [0] (fun t wx => ∃ a' c', t = .slice a' ys.length c' ∧ Reads wx .u8 a' ys ∧ Below w.heap.size w wx)
    case first =>
      cases a with
      | none =>
        go_wp2
        go_meet
        case rel => exact ⟨none, cap, rfl, hR, Below.refl _ _⟩
      | some x =>
        go_wp2_with (refine wpList_copy_row _ (.tmp 31) (.tmp 32) 26 5 .u8 1 Try.underlying26 Try.info5 rfl rfl w.heap.size ys.length ys.length cap _ (List.replicate ys.length 0) ys rfl rfl (zrow_row _ _ _ _) (by simp) rfl (hR.of_below ((Below.refl _ _).alloc (Nat.le_refl _) _)) ?_; intro w1 hrow hgr hsz)
        go_meet
        case rel => exact ⟨_, _, rfl, hrow.reads, ((Below.refl _ _).alloc (Nat.le_refl _) _).grown hgr (by simp) (fun k hk => by cases hk; exact Nat.le_refl _)⟩
    case rest =>
      obtain ⟨a', c', rfl, hR', hb⟩ := hcut
      clear hneq hmk hR hnil
      go_upto_block 0 with fail
      go_cut [37] (fun _ wx => wx = wc ∧ Hid (∀ m, m < ys.length → ys.getD m 0 ≤ 15))
      case first =>
        go_wp2
        go_loop [37] (fun i => ∃ j : Nat, i = .int .i64 j ∧ j ≤ ys.length ∧ Hid (∀ m, m < j → ys.getD m 0 ≤ 15)) (fun i => ys.length - (intOf i).toNat)
        case atStart => exact ⟨0, rfl, Nat.zero_le _, fun m hm => absurd hm (by omega)⟩
        case round =>
          obtain ⟨j, rfl, hj, H15⟩ := hrel
          by_cases hlt : j < ys.length
          · obtain ⟨b, off, rfl, hbs, hc⟩ := hR' j hlt
            obtain ⟨v, hv⟩ : ∃ v, v = ys.getD j 0 := ⟨_, rfl⟩
            rw [← hv] at hc
            have HV : Hid (v = ys.getD j 0) := hv
            clear hv
            by_cases hv15 : v ≤ 15
            · go_wp2
              go_round
              case rel => exact ⟨j + 1, by go_num, by omega, fun m hm => if h : m = j then h ▸ (HV.out ▸ hv15) else H15.out m (by omega)⟩
              case measure => simp [intOf]; omega
            · go_wp2
              go_ret
              exact ⟨rfl, hb⟩
          · go_wp2
            go_meet
            case rel => exact ⟨rfl, fun m hm => H15.out m (by omega)⟩
      case rest =>
        obtain ⟨hwc, H15⟩ := hcut
        subst hwc
        obtain ⟨r1, hr1⟩ : ∃ r1, (bits BinOp.and IntKind.i64 rep 1 != 0) = r1 := ⟨_, rfl⟩
        obtain ⟨r2, hr2⟩ : ∃ r2, (bits BinOp.and IntKind.i64 rep 2 != 0) = r2 := ⟨_, rfl⟩
        obtain ⟨r4, hr4⟩ : ∃ r4, (bits BinOp.and IntKind.i64 rep 4 != 0) = r4 := ⟨_, rfl⟩
        have h15 : Hid (∀ j, 0 ≤ ys.getD j 0 ∧ ys.getD j 0 ≤ 15) := u8_bound hwf H15
        go_upto_if 61 with (go_at_call 24; refine (zzRun_any ys rep r1 r2 r4 hr1 hr2 hr4 _ _ _ hR' h15 hn).mono ?_; rintro e w1 ⟨cv, ev, xs, pv, rfl, ho1, ho2, hinv, hb1⟩; obtain ⟨ca, cc, hcv, hcR, _⟩ := ho1.reads; obtain ⟨ea, ec, hev, heR, _⟩ := ho2.reads; subst hcv hev; have hxl : xs.length ≤ ys.length := hinv.2.1; have hdl : decide (ys.length < xs.length) = false := by simp; omega)
        have HI : Hid (Dec.all r1 r2 r4 xs = some (ys, pv)) := by have := hinv.1; rw [List.take_length] at this; exact this
        have hmk0 : ∀ w : World, (Instr.makeSlice 26 (.int .i64 0) (.int .i64 (ys.length : Int))).run Try.prog w = .ok (.slice (some ⟨w.heap.size, 0, none⟩) 0 ys.length) (w.alloc (.cells (zrow .u8 ys.length) 5)) :=
          fun w => make_ints 26 5 .u8 1 Try.underlying26 Try.info5 (by decide) 0 ys.length (Nat.zero_le _) (by omega) w
        clear hinv ho1 ho2
        go_wp2
        go_loopg [10, 11, 67] xs.length (fun k vo vp i wr => ∃ (j : Nat) (out : List Int) (prev : Int), xs.length - j ≤ k ∧ i = .int .i64 j ∧ j ≤ xs.length ∧ vp = .int .i64 prev ∧ -1 ≤ prev ∧ prev ≤ 15 ∧ Owns wr w1.heap.size 5 .u8 vo out ∧ Hid (Dec.all r1 r2 r4 (xs.take j) = some (out, prev)) ∧ Below w1.heap.size w1 wr)
        case atStart => exact ⟨0, [], -1, by omega, rfl, by omega, rfl, by omega, by omega, World.ownsRow_made w1 _ _ (Nat.le_refl _) (by unfold maxLen; omega) (by simp [zrow]), (show Dec.all r1 r2 r4 (xs.take 0) = some ([], -1) from rfl), (Below.refl _ _).alloc (Nat.le_refl _) _⟩
        case round =>
          obtain ⟨j, out, prev, hk, rfl, hj, rfl, hp1, hp2, hout, HD, hb2⟩ := hrel
          by_cases hlt : j < xs.length
          · obtain ⟨cb, coff, hca, hcbs, hcc⟩ := hcR j (by simpa using hlt)
            obtain ⟨eb, eoff, hea, hebs, hec⟩ := heR j (by simpa using hlt)
            subst hca hea
            obtain ⟨x1, x2, hx⟩ : ∃ x1 x2, xs.getD j (0, 0) = (x1, x2) := ⟨_, _, rfl⟩
            obtain ⟨lit, cnt, val, hrd, hnext, hlen⟩ := Dec.at_k HI.out j hlt HD.out
            rw [hx] at hrd
            have hq1 : wr.cell? ⟨cb, coff + j, none⟩ = some (.int .i64 x1) := by rw [(hb2.cell (by exact hcbs)), hcc, map_getD _ _ _ rfl, hx]
            have hq2 : wr.cell? ⟨eb, eoff + j, none⟩ = some (.int .i64 x2) := by rw [(hb2.cell (by exact hebs)), hec, map_getD _ _ _ rfl, hx]
            have HN : Hid (Dec.all r1 r2 r4 (xs.take (j + 1)) = some (out ++ List.replicate cnt val, val)) := hnext
            have HX : Hid (Dec.Reads1 r1 r2 r4 prev x1 x2 lit cnt val) := hrd
            clear hx hnext hrd hcc hec
            have hsz2 := hb2.size
            go_upto_region 27 with fail
            go_cut [83] (fun t wx => wx = wr ∧ t = .bool lit)
            case first =>
              rcases HX.out with ⟨rfl, h1, h2, _⟩ | ⟨rfl, rfl, _⟩ | ⟨rfl, rfl, _⟩ | ⟨rfl, rfl, _⟩
              all_goals
                go_wp2
                go_meet
                case rel => exact ⟨rfl, rfl⟩
            case rest =>
              obtain ⟨hwx, rfl⟩ := hcut
              subst hwx
              go_upto_if 83 with fail
              go_cut [15, 16] (fun t s wx => wx = wc ∧ t = .int .i64 cnt ∧ s = .int .i64 val ∧ -1 ≤ val ∧ val ≤ 15 ∧ (1 ≤ cnt → 0 ≤ val))
              case first =>
                rcases HX.out with ⟨rfl, h1, h2, rfl, rfl, rfl⟩ | ⟨rfl, rfl, rfl, h1, h2, h3, h4, rfl⟩ | ⟨rfl, rfl, rfl, h1, h2, h4, rfl⟩ | ⟨rfl, rfl, rfl, h1, h2, h4, rfl⟩
                · go_wp2
                  go_meet
                  case rel => exact ⟨rfl, rfl, rfl, by omega, by omega, fun _ => h1⟩
                · have hr : (bits BinOp.and IntKind.i64 rep 1 == 0) = false := by simpa using hr1
                  have H4 : Hid ((cnt : Int) = 3 + x2) := h4
                  clear h4
                  go_wp2
                  go_meet
                  case rel => exact ⟨rfl, by rw [H4.out], rfl, by omega, by omega, fun _ => h3⟩
                · have hr : (bits BinOp.and IntKind.i64 rep 2 == 0) = false := by simpa using hr2
                  have H4 : Hid ((cnt : Int) = 3 + x2) := h4
                  clear h4
                  go_wp2
                  go_meet
                  case rel => exact ⟨rfl, by rw [H4.out], rfl, by omega, by omega, fun _ => by omega⟩
                · have hr : (bits BinOp.and IntKind.i64 rep 4 == 0) = false := by simpa using hr4
                  have H4 : Hid ((cnt : Int) = 11 + x2) := h4
                  clear h4
                  go_wp2
                  go_meet
                  case rel => exact ⟨rfl, by rw [H4.out], rfl, by omega, by omega, fun _ => by omega⟩
              case rest =>
                obtain ⟨hwx, rfl, rfl, hv1, hv2, hv3⟩ := hcut
                subst hwx
                obtain ⟨oa, oc, hov, hoR, _⟩ := hout.reads
                have HO : Hid (Owns wc w1.heap.size 5 .u8 u10 out) := hout
                subst hov
                clear hout hq1 hq2 hcR heR HX hmk0
                have hdl2 : decide ((ys.length : Int) < (out.length : Int) + (cnt : Int)) = false := by simp; omega
                go_wp2
                go_loopg [10, 17] cnt (fun k v t wx => ∃ i : Nat, cnt - i ≤ k ∧ t = .int .i64 i ∧ i ≤ cnt ∧ Owns wx w1.heap.size 5 .u8 v (out ++ List.replicate i val) ∧ Below w1.heap.size w1 wx)
                case atStart => exact ⟨0, by omega, rfl, by omega, by simpa using HO.out, hb2⟩
                case round =>
                  obtain ⟨i, hki, rfl, hi, hown, hb3⟩ := hrel
                  by_cases hic : i < cnt
                  · have hv0 : 0 ≤ val := hv3 (by omega)
                    have hsz3 := hb3.size
                    have HL : Hid ((out ++ List.replicate i val).length ≤ 1099511627776) := by show _ ≤ _; simp; omega
                    have HW : Hid (Owns wr w1.heap.size 5 .u8 u10 (out ++ List.replicate i val)) := hown
                    clear hown
                    go_wp2_with (at_builtin; refine wpList_push w1.heap.size _ (.tmp 149) (.tmp 152) 26 5 .u8 1 Try.underlying26 Try.info5 (by decide) rfl rfl _ _ _ rfl HW.out _ rfl rfl HL.out (by omega) ?_; intro v1 w2 hp1 hgr1 hfr1)
                    go_roundg (cnt - (i + 1))
                    case measure => omega
                    case rel => exact ⟨i + 1, Nat.le_refl _, by go_num, by omega, by rw [List.replicate_succ', ← List.append_assoc]; exact hp1, hb3.grown hgr1 hsz3 (fun k hk => (HW.out.lt k hk).1)⟩
                  · have hie : i = cnt := by omega
                    subst hie
                    have HW : Hid (Owns wr w1.heap.size 5 .u8 u10 (out ++ List.replicate i val)) := hown
                    clear hown
                    go_wp2
                    go_roundg (xs.length - (j + 1))
                    case measure => omega
                    case rel => exact ⟨j + 1, _, _, Nat.le_refl _, by go_num, by omega, rfl, hv1, hv2, HW.out, HN, hb3⟩
          · have hje : j = xs.length := by omega
            subst hje
            have hoe : out = ys := by
              have h1 := HD.out
              rw [List.take_length, HI.out] at h1
              simp at h1
              exact h1.1.symm
            subst hoe
            obtain ⟨oa, oc, hov, hoR, _⟩ := hout.reads
            subst hov
            have hR2 := hR'.of_below (hb1.trans (hb2.mono hb1.size))
            clear hout HD HI hcR heR hmk0 H15 h15 hwf hR'
            go_wp2
            go_loopw [163] (fun i wx => ∃ m : Nat, i = .int .i64 m ∧ m ≤ out.length ∧ ∃ nq, wx = wr.drewN nq) (fun i _ => out.length - (intOf i).toNat)
            case atStart => exact ⟨0, rfl, Nat.zero_le _, 0, rfl⟩
            case round =>
              obtain ⟨m, rfl, hm, nq, rfl⟩ := hrel
              by_cases hml : m < out.length
              · obtain ⟨b1, o1, rfl, hbs1, hq1⟩ := hR2 m hml
                obtain ⟨b2, o2, rfl, hbs2, hq2⟩ := hoR m hml
                obtain ⟨v, hv⟩ : ∃ v, v = out.getD m 0 := ⟨_, rfl⟩
                rw [← hv] at hq1 hq2
                have hml' : (m : Int) < (out.length : Int) := by omega
                go_wp2
                go_quiet (fail)
                go_wp2
                go_roundw
                case rel => exact ⟨m + 1, by go_num, by omega, _, rfl⟩
                case measure => simp [intOf]; omega
              · go_wp2
                go_ret
                exact ⟨rfl, below_drewN' ((hb.trans (hb1.mono hb.size)).trans (hb2.mono (Nat.le_trans hb.size hb1.size))) _⟩
  · have hn' : 1048576 < ys.length := by omega
    go_enter Try.func7, Try.ntmps7
    go_wp2_with (go_at_call 23; refine (bytes23f _ _ _ _ _ hn').mono ?_; rintro e w' ⟨rfl, rfl⟩)
    go_ret
    exact ⟨rfl, Below.refl _ _⟩
end Go.Proofs.Qxb6604297a
