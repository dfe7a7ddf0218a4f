/-
  The walk of FnHuffmanOptimalCompleteCode (5).
-/
import Derived.Test.Qxb6604297aHuffDom2
import Derived.Test.Qxb6604297aComplete
import Derived.Test.Qxb6604297aMergeCost
set_option linter.unusedVariables false
namespace Go.Proofs.Qxb6604297a
open Go.ChangeShapes Go.WideShapes Go.ChangeAt Go.RowKit

/-- The weights along the used symbols, as a list. -/
def wlist (cs us : List Int) : List Int := us.map (fun z => cs.getD z.toNat 0)
theorem wlist_len (cs us : List Int) : (wlist cs us).length = us.length := by simp [wlist]
theorem wlist_at (cs us : List Int) {i : Nat} (hi : i < us.length) : (wlist cs us).getD i 0 = wts cs us i := by
  simp [wlist, wts, hi]

/-- All that the law asks of huffman's answer. -/
structure OptFacts (cs us : List Int) (s0 : Huff.HS) (D : List Int) : Prop where
  len : D.length = 2 * us.length - 1
  lo : ∀ i, i < us.length → 1 ≤ D.getD i 0
  hi : ∀ i, i < us.length → D.getD i 0 ≤ 101
  most : ∀ i, i < us.length → D.getD i 0 ≤ D.getD 0 0
  cost : Huff.sumF (fun i => wts cs us i * D.getD i 0) us.length = Huff.sumF (mergeW us.length s0) (us.length - 1)
  kraft : Huff.sumF (fun i => if 0 < (D.take us.length).getD i 0 then 2 ^ (255 - ((D.take us.length).getD i 0).toNat) else 0) us.length = 2 ^ 255

theorem take_getD (D : List Int) {n i : Nat} (hi : i < n) : (D.take n).getD i 0 = D.getD i 0 := by
  simp [List.getD_eq_getElem?_getD, hi]

theorem optFacts {cs us : List Int} {L : Nat} {s0 : Huff.HS} {D : List Int} (hd : HDom cs us L) (hs : HStart (wts cs us) us.length s0) (hdep : Huff.Dep us.length (Huff.hrun us.length s0 (us.length - 1)).P D 0) : OptFacts cs us s0 D := by
  have T := hs.done hd.asc hd.two
  have h2 := hd.two
  have hall : ∀ j, j ≤ 2 * us.length - 2 → D.getD j 0 ≤ 101 := fun j hj => Huff.dep_bound T hdep h2 hd.sum hj (Nat.zero_le _)
  have hlo : ∀ i, i < us.length → 1 ≤ D.getD i 0 := by
    intro i hi
    obtain ⟨p, h1, h3, h4, h5, h6⟩ := Huff.par_nat T (show i < 2 * us.length - 2 by omega)
    rw [hdep.step i (Nat.zero_le _) (by omega), h3]
    have := Huff.dep_nonneg T hdep h2 p h5 (Nat.zero_le _)
    omega
  refine ⟨hdep.len, hlo, fun i hi => hall i (by omega), (Huff.longest_laws T hdep h2).1, Huff.cost T hdep, ?_⟩
  have hk := Huff.kraft T hdep h2 255 (fun j hj => by have := hall j hj; omega)
  rw [← hk]
  refine Huff.sumF_congr us.length (fun i hi => ?_)
  rw [take_getD D hi, if_pos (by have := hlo i hi; omega)]

theorem made_two (w : World) (n : Nat) (hn : n ≤ 1048576) : Owns ((w.alloc (.cells (zrow .u8 n) 5)).alloc (.cells (zrow .i64 n) 2)) w.heap.size 5 .u8 (.slice (some ⟨w.heap.size, 0, none⟩) 0 n) [] ∧
    Owns ((w.alloc (.cells (zrow .u8 n) 5)).alloc (.cells (zrow .i64 n) 2)) w.heap.size 2 .i64 (.slice (some ⟨w.heap.size + 1, 0, none⟩) 0 n) [] ∧ Parted (.slice (some ⟨w.heap.size, 0, none⟩) 0 n) (.slice (some ⟨w.heap.size + 1, 0, none⟩) 0 n) ∧
    Below w.heap.size w ((w.alloc (.cells (zrow .u8 n) 5)).alloc (.cells (zrow .i64 n) 2)) := by
  have e : (w.alloc (.cells (zrow .u8 n) 5)).heap.size = w.heap.size + 1 := by simp
  refine ⟨?_, ?_, ?_, ((Below.refl _ _).alloc (Nat.le_refl _) _).alloc (by simp) _⟩
  · exact World.ownsRow.alloc (World.ownsRow_made w (zrow .u8 n) n (Nat.le_refl _) (by unfold maxLen; omega) (by simp [zrow])) _
  · have h := World.ownsRow_made (base := w.heap.size) (e := 2) (size := 1) (w.alloc (.cells (zrow .u8 n) 5)) (zrow .i64 n) n (by simp) (by unfold maxLen; omega) (by simp [zrow])
    rw [e] at h
    exact h
  · intro g hg hu
    simp [Value.ownBlock] at hg hu
    omega

theorem cost_step {cs us : List Int} {L : Nat} {s0 : Huff.HS} {D : List Int} (hd : HDom cs us L) (ho : OptFacts cs us s0 D) {j : Nat} (hj : j < us.length) :
    0 ≤ wts cs us j * D.getD j 0 ∧ wts cs us j * D.getD j 0 ≤ 113715890591105024 ∧ Huff.sumF (fun i => wts cs us i * D.getD i 0) j + wts cs us j * D.getD j 0 ≤ 113715890591105024 := by
  have hterm : ∀ i, i < us.length → 0 ≤ wts cs us i * D.getD i 0 ∧ wts cs us i * D.getD i 0 ≤ 101 * wts cs us i := by
    intro i hi
    have h1 := hd.pos i hi
    have h1' : 1 ≤ wts cs us i := h1
    have h2 := ho.lo i hi
    have h3 := ho.hi i hi
    refine ⟨Int.mul_nonneg (by omega) (by omega), ?_⟩
    rw [Int.mul_comm 101]
    exact Int.mul_le_mul_of_nonneg_left h3 (by omega)
  have hmul : ∀ k, Huff.sumF (fun i => 101 * wts cs us i) k = 101 * Huff.sumF (wts cs us) k := by
    intro k
    induction k with
    | zero => rfl
    | succ k ih => rw [Huff.sumF_succ, Huff.sumF_succ, ih]; omega
  have hall : Huff.sumF (fun i => wts cs us i * D.getD i 0) (j + 1) ≤ Huff.sumF (fun i => 101 * wts cs us i) (j + 1) := Huff.sumF_le (fun i hi => (hterm i (by omega)).2)
  have hmono : ∀ k, j + 1 + k ≤ us.length → Huff.sumF (wts cs us) (j + 1) ≤ Huff.sumF (wts cs us) (j + 1 + k) := by
    intro k
    induction k with
    | zero => intro _; exact Int.le_refl _
    | succ k ih =>
      intro hk
      have h1 := ih (by omega)
      have h2 : 1 ≤ wts cs us (j + 1 + k) := hd.pos (j + 1 + k) (by omega)
      have h3 : Huff.sumF (wts cs us) (j + 1 + (k + 1)) = Huff.sumF (wts cs us) (j + 1 + k) + wts cs us (j + 1 + k) := Huff.sumF_succ _ _
      omega
  have hm := hmono (us.length - (j + 1)) (by omega)
  rw [show j + 1 + (us.length - (j + 1)) = us.length by omega] at hm
  have hs : Huff.sumF (wts cs us) us.length ≤ 1125899906842624 := hd.sum
  rw [hmul, Huff.sumF_succ] at hall
  have hnn : 0 ≤ Huff.sumF (fun i => wts cs us i * D.getD i 0) j := Huff.sumF_nonneg (fun i hi => (hterm i (by omega)).1)
  have ht := hterm j hj
  refine ⟨ht.1, by omega, by omega⟩

theorem take_snocI (xs : List Int) (j : Nat) {x : Int} (h : j < xs.length) (hx : xs.getD j 0 = x) : xs.take (j + 1) = xs.take j ++ [x] := by
  rw [List.take_succ_eq_append_getElem h]
  rw [List.getD_eq_getElem?_getD, List.getElem?_eq_getElem h, Option.getD_some] at hx
  rw [hx]

theorem below_drewN' {B : Nat} {a w : World} (h : Below B a w) (n : Nat) : Below B a (w.drewN n) := ⟨h.os, h.tape, h.output, h.size, h.block⟩

set_option maxRecDepth 100000 in
set_option maxHeartbeats 8000000 in
theorem optLaw (ca ua la : Option Addr) (cc uc lc : Nat) (cs us ls : List Int) (w : World) (hc : Reads w .i64 ca cs) (hu : Reads w .i64 ua us) (hl : Reads w .u8 la ls) (hln : Hid (la = none → ls.length = 0)) :
    Calls Try.prog 5 #[.slice ca cs.length cc, .slice ua us.length uc, .slice la ls.length lc] w fun e w' => e = .returned (.bool true) ∧ Below w.heap.size w w' := by
  by_cases h0 : cs.length ≤ 4096
  · by_cases h1 : us.length ≤ 4096
    · by_cases h2 : ls.length ≤ 4096
      · have d0 : decide ((4096 : Int) < (cs.length : Int)) = false := decide_eq_false (by omega)
        have d1 : decide ((4096 : Int) < (us.length : Int)) = false := decide_eq_false (by omega)
        have d2 : decide ((4096 : Int) < (ls.length : Int)) = false := decide_eq_false (by omega)
        go_enter Try.func5, Try.ntmps5
        go_upto_if 26 with (go_at_call 16; refine (bytes16 _ _ _ _ _ _ _ _ _ _).mono ?_; rintro e w' ⟨b, rfl, rfl⟩)
        cases b with
        | false =>
          go_wp2
          go_ret
          exact ⟨rfl, Below.refl _ _⟩
        | true =>
          go_upto_if 44 with (first | (go_at_call 17; refine (wide_any _).mono ?_; rintro e w' ⟨rfl, rfl⟩) | (go_at_call 18; refine (dom_any cs us _ _ _ _ _ ls.length _ _ hc hu (by omega) (by omega) (by omega)).mono ?_; rintro e w1 ⟨b, rfl, hd, hb⟩))
          cases b with
          | false =>
            go_wp2
            go_ret
            exact ⟨rfl, hb⟩
          | true =>
            have HD : Hid (HDom cs us ls.length) := hd rfl
            clear hd
            have hx0 := HD.out.two
            have hx1 := HD.out.idx 0 (by omega)
            obtain ⟨cb, co, rfl⟩ := hc.addr (by omega)
            obtain ⟨ub, uo, rfl⟩ := hu.addr (by omega)
            obtain ⟨lb, lo, rfl⟩ := hl.addr (by omega)
            clear hx1
            have hneq := fun (w : World) => run_neq_slice_nil_any (P := Try.prog) w 22 3 (some ⟨cb, co, none⟩) cs.length cc 0 0 Try.underlying22
            have hneu := fun (w : World) => run_neq_slice_nil_any (P := Try.prog) w 22 3 (some ⟨ub, uo, none⟩) us.length uc 0 0 Try.underlying22
            have hmk := fun (w : World) => make_ints 22 3 .i64 8 Try.underlying22 Try.info3 (by decide) cs.length cs.length (Nat.le_refl _) (by omega) w
            have hmku := fun (w : World) => make_ints 22 3 .i64 8 Try.underlying22 Try.info3 (by decide) us.length us.length (Nat.le_refl _) (by omega) w
            go_upto_if 46 with fail
            go_cut [0] (fun t wx => ∃ a c', t = .slice a cs.length c' ∧ Reads wx .i64 a cs ∧ Below w1.heap.size w1 wx)
            case first =>
              have hc1 := hc.of_below hb
              go_wp2_with (refine wpList_copy_row _ (.tmp 50) (.tmp 51) 22 3 .i64 8 Try.underlying22 Try.info3 rfl rfl w1.heap.size cs.length cs.length cc _ (List.replicate cs.length 0) cs rfl rfl (zrow_row _ _ _ _) (by simp) rfl (hc1.of_below ((Below.refl _ _).alloc (Nat.le_refl _) _)) ?_; intro w2 hrow hgr hsz)
              go_meet
              case rel => exact ⟨_, _, rfl, hrow.reads, ((Below.refl _ _).alloc (Nat.le_refl _) _).grown hgr (by simp) (fun k hk => by cases hk; exact Nat.le_refl _)⟩
            case rest =>
              obtain ⟨ca', cc', rfl, hc', hb2⟩ := hcut
              have hb12 := hb.trans (hb2.mono hb.size)
              have hu' := hu.of_below hb12
              have hl' := hl.of_below hb12
              clear hc hneq hmk hu hl hb2
              go_upto_if 55 with fail
              go_cut [1] (fun t wx => ∃ a c', t = .slice a us.length c' ∧ Reads wx .i64 a us ∧ Below wc.heap.size wc wx)
              case first =>
                go_wp2_with (refine wpList_copy_row _ (.tmp 59) (.tmp 60) 22 3 .i64 8 Try.underlying22 Try.info3 rfl rfl wc.heap.size us.length us.length uc _ (List.replicate us.length 0) us rfl rfl (zrow_row _ _ _ _) (by simp) rfl (hu'.of_below ((Below.refl _ _).alloc (Nat.le_refl _) _)) ?_; intro w2 hrow hgr hsz)
                go_meet
                case rel => exact ⟨_, _, rfl, hrow.reads, ((Below.refl _ _).alloc (Nat.le_refl _) _).grown hgr (by simp) (fun k hk => by cases hk; exact Nat.le_refl _)⟩
              case rest =>
                obtain ⟨ua', uc', rfl, hu2, hb3⟩ := hcut
                have hc2 := hc'.of_below hb3
                have hl2 := hl'.of_below hb3
                have hb4 := hb12.trans (hb3.mono hb12.size)
                clear hneu hmku hu' hc' hl' hb3 hb12
                have hx1 := HD.out.idx 0 (by omega)
                obtain ⟨cb', co', rfl⟩ := hc2.addr (by omega)
                obtain ⟨ub', uo', rfl⟩ := hu2.addr (by omega)
                have hcb' := (hc2.at (i := 0) (by omega)).1
                have hub' := (hu2.at (i := 0) (by omega)).1
                go_wp2_with fail
                refine (clone_any ls _ _ _ hl2 (by omega) (by simp)).mono ?_
                rintro e w2 ⟨rfl, hrowB, hb5, hs5⟩
                have hc3 := hc2.of_below hb5
                have hu3 := hu2.of_below hb5
                have hl3 := hl2.of_below hb5
                go_wp2_with fail
                refine (clone_any ls _ _ _ hl3 (by omega) (by simp)).mono ?_
                rintro e w3 ⟨rfl, hrowC, hb6, hs6⟩
                have hc4 := hc3.of_below hb6
                have hu4 := hu3.of_below hb6
                have hrowB' := hrowB.below hb6 hrowB.lt
                rw [hs5] at hrowC
                have hs6' : w3.heap.size = wc.heap.size + 1 + 1 := by omega
                have hbw3 : Below w.heap.size w w3 := (hb4.trans (hb5.mono hb4.size)).trans (hb6.mono (by have := hb4.size; omega))
                go_wp2_with fail
                refine (zzhuffman_run cs us ls _ _ _ _ _ (wc.heap.size + 1) w3 hc4 hu4 hrowC (fun x hx => by cases hx; dsimp only; omega) (fun x hx => by cases hx; dsimp only; omega) HD.out h1).mono ?_
                rintro e w4 ⟨s0, D, L', hst, hdep, rfl, hrL, hleft, hkeep⟩
                have hu5 : Reads w4 .i64 (some ⟨ub', uo', none⟩) us := hu4.keeps hkeep (fun x hx => by cases hx; dsimp only; omega)
                have hc5 : Reads w4 .i64 (some ⟨cb', co', none⟩) cs := hc4.keeps hkeep (fun x hx => by cases hx; dsimp only; omega)
                have hrB : Row w4 wc.heap.size 5 .u8 ls := hkeep.row hrowB' (by omega)
                have hbel : Below w.heap.size w w4 := hbw3.trans (hkeep.below (fun k hk e => by have := hb4.size; omega) (by have := hb4.size; omega))
                have HO : Hid (OptFacts cs us s0 D) := optFacts HD.out hst hdep
                have HST : Hid (HStart (wts cs us) us.length s0) := hst
                have HL : Hid (HLeft us ls L' D 0) := hleft
                have hrLl : L'.length = ls.length := hleft.len
                obtain ⟨lg, hlg⟩ : ∃ lg, lg = D.getD 0 0 := ⟨_, rfl⟩
                rw [← hlg]
                have HLG : Hid (lg = D.getD 0 0) := hlg
                have HLL : Hid (L'.length = ls.length) := hrLl
                have lg1 : 1 ≤ lg := by rw [hlg]; exact HO.out.lo 0 (by omega)
                have lg2 : lg ≤ 101 := by rw [hlg]; exact HO.out.hi 0 (by omega)
                have hmkb := fun (w : World) => make_bools ls.length (by omega) w
                have hlt4 := hrL.lt
                clear hst hdep hleft hkeep hlg hc4 hu4 hc3 hu3 hc2 hu2 hl2 hl3 hrowB hrowB' hrowC hb5 hb6 hbw3 hb4 hs5 hs6 hs6' hb hx1 hln hrLl
                generalize wc.heap.size = gB at *
                go_upto_block 0 with fail
                go_cut [76] (fun _ wx => ∃ S : List Bool, S.length = ls.length ∧ (∀ i, i < us.length → S.getD (us.getD i 0).toNat false = true) ∧ BRow wx w4.heap.size S ∧ Below w4.heap.size w4 wx)
                case first =>
                  go_wp2
                  go_loopg [76] us.length (fun k t wx => ∃ (j : Nat) (S : List Bool), us.length - j ≤ k ∧ t = .int .i64 j ∧ j ≤ us.length ∧ Hid (S.length = ls.length ∧ (∀ i, i < j → S.getD (us.getD i 0).toNat false = true)) ∧ BRow wx w4.heap.size S ∧ Below w4.heap.size w4 wx)
                  case atStart => exact ⟨0, _, by omega, rfl, by omega, ⟨by simp, fun i hi => by omega⟩, brow_row w4 ls.length, (Below.refl _ _).alloc (Nat.le_refl _) _⟩
                  case round =>
                    obtain ⟨j, S, hk, rfl, hj, HS, hrS, hb7⟩ := hrel
                    by_cases hlt : j < us.length
                    · obtain ⟨u, hu1, hu2, hu3, hu4⟩ := idx_nat HD.out hlt
                      have q1 : wr.cell? ⟨ub', uo' + j, none⟩ = some (.int .i64 u) := by rw [hb7.cell (by exact (hu5.at hlt).1), (hu5.at hlt).2, hu1]
                      have q2 := hrS.cell (show u < S.length by rw [HS.out.1]; exact hu3)
                      have q3 := hrS.frozen u
                      have HU : Hid (us.getD j 0 = (u : Int)) := hu1
                      have i1 : (u : Int) < (ls.length : Int) := by omega
                      clear hu1 hu4
                      go_wp2
                      go_roundg (us.length - (j + 1))
                      case measure => omega
                      case rel =>
                        refine ⟨j + 1, S.set u true, Nat.le_refl _, by go_num, by omega, ⟨by rw [List.length_set]; exact HS.out.1, ?_⟩, hrS.set u true, hb7.setCell (Nat.le_refl _) _⟩
                        intro i hi
                        rw [getD_setB _ _ _ _ (by rw [HS.out.1]; exact hu3)]
                        split
                        · rfl
                        · rename_i hne
                          refine HS.out.2 i ?_
                          by_cases e : i = j
                          · exfalso; apply hne; rw [e, HU.out, Int.toNat_natCast]
                          · omega
                    · go_wp2
                      go_meet
                      case rel => exact ⟨S, HS.out.1, fun i hi => HS.out.2 i (by omega), hrS, hb7⟩
                case rest =>
                  obtain ⟨S, hSl, hSm, hrS, hb7⟩ := hcut
                  have HS : Hid (S.length = ls.length ∧ (∀ i, i < us.length → S.getD (us.getD i 0).toNat false = true)) := ⟨hSl, hSm⟩
                  have hu6 := hu5.of_below hb7
                  have hc6 := hc5.of_below hb7
                  have hrL6 := hrL.below hb7 hrL.lt
                  have hrB6 := hrB.below hb7 hrB.lt
                  have hbel6 := hbel.trans (hb7.mono hbel.size)
                  clear hSl hSm hb7 hu5 hc5 hrL hrB hbel hmkb
                  go_upto_block 2 with fail
                  go_cut [86] (fun _ wx => ∃ nq, wx = wc.drewN nq)
                  case first =>
                    go_wp2
                    go_loopg [86] ls.length (fun k t wx => ∃ j : Nat, ls.length - j ≤ k ∧ t = .int .i64 j ∧ j ≤ ls.length ∧ ∃ nq, wx = wc.drewN nq)
                    case atStart => exact ⟨0, by omega, rfl, by omega, 0, rfl⟩
                    case round =>
                      obtain ⟨j, hk, rfl, hj, nq, rfl⟩ := hrel
                      by_cases hlt : j < ls.length
                      · have q1 := hrS.cell (show j < S.length by rw [HS.out.1]; exact hlt)
                        have q2 := hrL6.cell (show j < L'.length by rw [HLL.out]; exact hlt)
                        have q3 := hrB6.cell hlt
                        have i1 : (j : Int) < (ls.length : Int) := by omega
                        obtain ⟨sv, hsv⟩ : ∃ sv, sv = S.getD j false := ⟨_, rfl⟩
                        rw [← hsv] at q1
                        cases sv with
                        | true =>
                          clear hsv
                          go_wp2
                          go_quiet (fail)
                          go_wp2
                          go_roundg (ls.length - (j + 1))
                          case measure => omega
                          case rel => exact ⟨j + 1, Nat.le_refl _, by go_num, by omega, _, rfl⟩
                        | false =>
                          have hoff : L'.getD j 0 = ls.getD j 0 := by
                            refine HL.out.off j ?_
                            intro i _ hi e
                            have := HS.out.2 i hi
                            rw [e, ← hsv] at this
                            cases this
                          rw [hoff] at q2
                          generalize ls.getD j 0 = x at *
                          clear hsv hoff
                          go_wp2
                          go_quiet (fail)
                          go_wp2
                          go_roundg (ls.length - (j + 1))
                          case measure => omega
                          case rel => exact ⟨j + 1, Nat.le_refl _, by go_num, by omega, _, rfl⟩
                      · go_wp2
                        go_meet
                        case rel => exact ⟨nq, rfl⟩
                  case rest =>
                    obtain ⟨nq, hwx⟩ := hcut
                    have hu7 : Reads wc .i64 (some ⟨ub', uo', none⟩) us := by rw [hwx]; exact hu6
                    have hc7 : Reads wc .i64 (some ⟨cb', co', none⟩) cs := by rw [hwx]; exact hc6
                    have hrL7 : Row wc (gB + 1) 5 .u8 L' := by rw [hwx]; exact hrL6
                    have hbel7 : Below w.heap.size w wc := by rw [hwx]; exact below_drewN' hbel6 nq
                    have hmk8 : ∀ w : World, (Instr.makeSlice 26 (.int .i64 0) (.int .i64 (us.length : Int))).run Try.prog w = .ok (.slice (some ⟨w.heap.size, 0, none⟩) 0 us.length) (w.alloc (.cells (zrow .u8 us.length) 5)) :=
                      fun w => make_ints 26 5 .u8 1 Try.underlying26 Try.info5 (by decide) 0 us.length (Nat.zero_le _) (by omega) w
                    have hmk9 : ∀ w : World, (Instr.makeSlice 29 (.int .i64 0) (.int .i64 (us.length : Int))).run Try.prog w = .ok (.slice (some ⟨w.heap.size, 0, none⟩) 0 us.length) (w.alloc (.cells (zrow .i64 us.length) 2)) :=
                      fun w => make_ints 29 2 .i64 8 Try.underlying29 Try.info2 (by decide) 0 us.length (Nat.zero_le _) (by omega) w
                    clear hwx hrS HS hu6 hc6 hrL6 hrB6 hbel6 hlt4
                    obtain ⟨wB, hwB⟩ : ∃ wB, wB = wc := ⟨_, rfl⟩
                    subst hwB
                    go_wp2
                    go_loopg [15, 16, 17, 18, 114] us.length (fun k vc vw tm tc ti wx => ∃ (j : Nat) (most cost : Int), us.length - j ≤ k ∧ ti = .int .i64 j ∧ j ≤ us.length ∧ tm = .int .i64 most ∧ 0 ≤ most ∧ most ≤ 101 ∧ tc = .int .i64 cost ∧ 0 ≤ cost ∧ cost ≤ 113715890591105024 ∧
                      Hid (most = (if j = 0 then 0 else lg) ∧ cost = Huff.sumF (fun i => wts cs us i * D.getD i 0) j) ∧ Owns wx wB.heap.size 5 .u8 vc (D.take j) ∧ Owns wx wB.heap.size 2 .i64 vw ((wlist cs us).take j) ∧ Parted vc vw ∧ Below wB.heap.size wB wx)
                    case atStart =>
                      obtain ⟨m1, m2, m3, m4⟩ := made_two wB us.length (by omega)
                      exact ⟨0, 0, 0, by omega, rfl, by omega, rfl, by omega, by omega, rfl, by omega, by omega, ⟨rfl, rfl⟩, m1, m2, m3, m4⟩
                    case round =>
                      obtain ⟨j, most, cost, hk, rfl, hj, rfl, hm0, hm1, rfl, hc0, hc1, HMC, ho1, ho2, hpt, hb8⟩ := hrel
                      by_cases hlt : j < us.length
                      · obtain ⟨u, hu1, hu2, hu3, hu4⟩ := idx_nat HD.out hlt
                        have q1 : wr.cell? ⟨ub', uo' + j, none⟩ = some (.int .i64 u) := by rw [hb8.cell (by exact (hu7.at hlt).1), (hu7.at hlt).2, hu1]
                        obtain ⟨l, hl⟩ : ∃ l, l = D.getD j 0 := ⟨_, rfl⟩
                        obtain ⟨c, hcv⟩ : ∃ c, c = wts cs us j := ⟨_, rfl⟩
                        have q2 : wr.cell? ⟨gB + 1, u, none⟩ = some (.int .u8 l) := by
                          rw [hb8.cell (by exact hrL7.lt), hrL7.cell (by rw [HLL.out]; exact hu3), hl]
                          have := HL.out.at_ j (Nat.zero_le _) hlt
                          rw [hu1, Int.toNat_natCast] at this
                          rw [this]
                        have q3 : wr.cell? ⟨cb', co' + u, none⟩ = some (.int .i64 c) := by rw [hb8.cell (by exact (hc7.at hu2).1), (hc7.at hu2).2, hcv, hu4]
                        have hcb := (hc7.at hu2).1
                        have hl1 : 1 ≤ l := by rw [hl]; exact HO.out.lo j hlt
                        have hl2 : l ≤ 101 := by rw [hl]; exact HO.out.hi j hlt
                        have hll : l ≤ lg := by rw [hl, HLG.out]; exact HO.out.most j hlt
                        obtain ⟨cl0, cl1, cl2⟩ := cost_step (D := D) HD.out HO.out hlt
                        rw [← hcv, ← hl] at cl0 cl1
                        rw [← hcv, ← hl, ← HMC.out.2] at cl2
                        have HCL : Hid (l = D.getD j 0 ∧ c = wts cs us j) := ⟨hl, hcv⟩
                        have HU1 : Hid (us.getD j 0 = (u : Int)) := hu1
                        have i1 : (u : Int) < (ls.length : Int) := by omega
                        have i2 : (u : Int) < (cs.length : Int) := by omega
                        clear hl hcv hu1 hu4
                        go_upto_if 127 with fail
                        go_cut [17] (fun t wx => wx = wr ∧ t = .int .i64 lg)
                        case first =>
                          by_cases hj0 : j = 0
                          · have hml : most < l := by rw [HMC.out.1, if_pos hj0]; omega
                            have hll2 : l = lg := by rw [HCL.out.1, hj0]; exact HLG.out.symm
                            subst hll2
                            clear hj0
                            go_wp2
                            go_meet
                            case rel => exact ⟨rfl, rfl⟩
                          · have hml : ¬ most < l := by rw [HMC.out.1, if_neg hj0]; omega
                            have hme : most = lg := by rw [HMC.out.1, if_neg hj0]
                            subst hme
                            clear hj0
                            go_wp2
                            go_meet
                            case rel => exact ⟨rfl, rfl⟩
                        case rest =>
                          obtain ⟨hwx, rfl⟩ := hcut
                          subst hwx
                          have HO1 : Hid (Owns wc wB.heap.size 5 .u8 u15 (D.take j)) := ho1
                          have HO2 : Hid (Owns wc wB.heap.size 2 .i64 u16 ((wlist cs us).take j)) := ho2
                          have HLe : Hid ((D.take j).length ≤ 1099511627776 ∧ ((wlist cs us).take j).length ≤ 1099511627776) := by constructor <;> rw [List.length_take] <;> omega
                          have hszB := hb8.size
                          clear ho1 ho2
                          go_wp2_with (first
                            | (at_builtin; refine wpList_push wB.heap.size _ (.tmp 129) (.tmp 134) 26 5 .u8 1 Try.underlying26 Try.info5 (by decide) rfl rfl _ _ _ rfl HO1.out _ rfl rfl HLe.out.1 hszB ?_; intro v1 w5 hp1 hgr1 hfr1; have q5 : w5.cell? ⟨cb', co' + u, none⟩ = some (.int .i64 c) := hgr1.cell (a := ⟨cb', co' + u, none⟩) q3 (fun e => by have h9 := (HO1.out.lt _ e.symm).1; dsimp only at h9; omega))
                            | (at_builtin; refine wpList_push wB.heap.size w5 (.tmp 136) (.tmp 141) 29 2 .i64 8 Try.underlying29 Try.info2 (by decide) rfl rfl _ _ _ rfl (HO2.out.kept hgr1 hpt.keeps) _ rfl rfl HLe.out.2 (by have := hgr1.size; omega) ?_; intro v2 w6 hp2 hgr2 hfr2; have q6 : w6.cell? ⟨cb', co' + u, none⟩ = some (.int .i64 c) := hgr2.cell (a := ⟨cb', co' + u, none⟩) q5 (fun e => by have h9 := (HO2.out.lt _ e.symm).1; dsimp only at h9; omega)))
                          have P1 : Parted v1 u16 := hpt.fresh hfr1 (fun g hg => (HO2.out.lt g hg).2)
                          have P2 : Parted v1 v2 := (P1.symm.fresh hfr2 (fun g hg => (hp1.lt g hg).2)).symm
                          have hp1' := hp1.kept hgr2 P1.symm.keeps
                          have hb9 : Below wB.heap.size wB w6 := (hb8.grown hgr1 hszB (fun k hk => (HO1.out.lt k hk).1)).grown hgr2 (by have := hgr1.size; omega) (fun k hk => (HO2.out.lt k hk).1)
                          have e1 : D.take (j + 1) = D.take j ++ [l] := take_snocI D j (by have := HO.out.len; omega) HCL.out.1.symm
                          have e2 : (wlist cs us).take (j + 1) = (wlist cs us).take j ++ [c] := take_snocI _ j (by rw [wlist_len]; exact hlt) (by rw [wlist_at cs us hlt]; exact HCL.out.2.symm)
                          go_roundg (us.length - (j + 1))
                          case measure => omega
                          case rel => exact ⟨j + 1, lg, cost + c * l, Nat.le_refl _, by go_num, by omega, rfl, by omega, lg2, rfl, by omega, cl2, ⟨by rw [if_neg (by omega)], by rw [Huff.sumF_succ, ← HMC.out.2, ← HCL.out.1, ← HCL.out.2]⟩, by rw [e1]; exact hp1', by rw [e2]; exact hp2, P2, hb9⟩
                      · have hje : j = us.length := by omega
                        have hme : most = lg := by rw [HMC.out.1, if_neg (by omega)]
                        have hce : Huff.sumF (mergeW us.length s0) (us.length - 1) = cost := by rw [HMC.out.2, hje]; exact HO.out.cost.symm
                        obtain ⟨code, hcode⟩ : ∃ code, code = D.take us.length := ⟨_, rfl⟩
                        obtain ⟨wl, hwl⟩ : ∃ wl, wl = wlist cs us := ⟨_, rfl⟩
                        have hcl : code.length = us.length := by rw [hcode, List.length_take]; have := HO.out.len; omega
                        have hwll : wl.length = us.length := by rw [hwl, wlist_len]
                        rw [hje, ← hcode] at ho1
                        rw [hje, ← hwl, List.take_of_length_le (by omega)] at ho2
                        obtain ⟨a15, c15, hv15, hR15, _⟩ := ho1.reads
                        obtain ⟨a16, c16, hv16, hR16, _⟩ := ho2.reads
                        rw [hcl] at hv15
                        rw [hwll] at hv16
                        subst hv15 hv16
                        subst hme
                        have HCODE : Hid (code = D.take us.length ∧ wl = wlist cs us ∧ code.length = us.length ∧ wl.length = us.length ∧ j = us.length ∧ Huff.sumF (mergeW us.length s0) (us.length - 1) = cost) := ⟨hcode, hwl, hcl, hwll, hje, hce⟩
                        have hlt2 : ¬ j < us.length := by omega
                        have K12 : Hid (∀ i, i < code.length → 0 ≤ code.getD i 0 ∧ code.getD i 0 ≤ 255) := by
                          intro i hi
                          rw [hcl] at hi
                          rw [hcode, take_getD D hi]
                          have := HO.out.lo i hi
                          have := HO.out.hi i hi
                          omega
                        have K13 : Hid (Huff.sumF (fun i => if 0 < code.getD i 0 then 2 ^ (255 - (code.getD i 0).toNat) else 0) code.length = 2 ^ 255) := by
                          show Huff.sumF _ code.length = _
                          rw [hcl, hcode]
                          exact HO.out.kraft
                        have C12 := complete_any code a15 c15 wr hR15 (by omega) K12 K13
                        rw [hcl] at C12
                        have HC12 : Hid (Calls Try.prog 12 #[.slice a15 us.length c15] wr fun e w' => e = .returned (.bool true) ∧ Below wr.heap.size wr w') := C12
                        clear hcode hwl hcl hwll hje hce C12 K12 K13 ho1 ho2 hlt
                        go_wp2_with fail
                        refine (HC12.out).mono ?_
                        rintro e w5 ⟨rfl, hb9⟩
                        have hR17 := hR16.of_below hb9
                        have C21 := mergeCost_any wl a16 c16 s0 (wts cs us) w5 hR17 (by have := HCODE.out; omega) (by have := HCODE.out; omega) (by rw [HCODE.out.2.2.2.1]; exact HST) (by rw [HCODE.out.2.2.2.1]; exact HD.out.asc) (by rw [HCODE.out.2.2.2.1]; exact HD.out.sum) (by rw [HCODE.out.2.2.2.1]; intro i hi; rw [HCODE.out.2.1]; exact (wlist_at cs us hi).symm)
                        rw [HCODE.out.2.2.2.1, HCODE.out.2.2.2.2.2] at C21
                        have HC21 : Hid (Calls Try.prog 21 #[.slice a16 us.length c16] w5 fun e w' => e = .returned (.int .i64 cost) ∧ Below w5.heap.size w5 w') := C21
                        clear C21
                        go_wp2_with fail
                        refine (HC21.out).mono ?_
                        rintro e w6 ⟨rfl, hb10⟩
                        go_wp2
                        go_ret
                        exact ⟨rfl, ((hbel7.trans (hb8.mono hbel7.size)).trans (hb9.mono (by have := hbel7.size; have := hb8.size; omega))).trans (hb10.mono (by have := hbel7.size; have := hb8.size; have := hb9.size; omega))⟩
      · go_enter Try.func5, Try.ntmps5
        go_wp2_with (go_at_call 16; refine (bytes16 _ _ _ _ _ _ _ _ _ _).mono ?_; rintro e w' ⟨b, rfl, rfl⟩; cases b)
        all_goals (go_ret; exact ⟨rfl, Below.refl _ _⟩)
    · go_enter Try.func5, Try.ntmps5
      go_wp2_with (go_at_call 16; refine (bytes16 _ _ _ _ _ _ _ _ _ _).mono ?_; rintro e w' ⟨b, rfl, rfl⟩; cases b)
      all_goals (go_ret; exact ⟨rfl, Below.refl _ _⟩)
  · go_enter Try.func5, Try.ntmps5
    go_wp2_with (go_at_call 16; refine (bytes16 _ _ _ _ _ _ _ _ _ _).mono ?_; rintro e w' ⟨b, rfl, rfl⟩; cases b)
    all_goals (go_ret; exact ⟨rfl, Below.refl _ _⟩)
end Go.Proofs.Qxb6604297a
