/-
  zzHuffmanDomain (18).
-/
import Derived.Test.Qxb6604297aHuffDom
set_option linter.unusedVariables false
namespace Go.Proofs.Qxb6604297a
open Go.ChangeShapes Go.WideShapes Go.ChangeAt Go.RowKit

theorem Try.info4 : (Try.prog.info? 4).map (fun i => (i.zero, i.size, i.bytes)) = some (some (.bool false), 1, 1) := by kernel_rfl
/-- A new row of n bools. -/
def brow (n : Nat) : Array Value := ((List.replicate n false).map Value.bool).toArray
theorem made_brow (n : Nat) : madeCells (Value.bool false).cells n = brow n := by
  have hc : (Value.bool false).cells = #[.bool false] := rfl
  rw [hc]
  apply Array.ext
  · simp [madeCells, brow]
  · intro i h1 h2
    simp [madeCells, brow, Nat.mod_one]
theorem make_bools (n : Nat) (hn : n ≤ 1099511627776) (w : World) :
    (Instr.makeSlice 36 (.int .i64 (n : Int)) (.int .i64 (n : Int))).run Try.prog w = .ok (.slice (some ⟨w.heap.size, 0, none⟩) n n) (w.alloc (.cells (brow n) 4)) := by
  obtain ⟨i0, hi, hz0, hz1, hz2⟩ := info_parts Try.info4
  have hb : (i0.bytes : Int) * (n : Int) ≤ 281474976710656 := by rw [hz2]; omega
  have h := run_make (P := Try.prog) w 36 4 i0 (.bool false) Try.underlying36 hi hz0 .i64 .i64 (n : Int) (n : Int) (by omega) (by omega) hb (by omega)
  rw [hz1, Nat.mul_one, Int.toNat_natCast, made_brow] at h
  exact h
/-- A row of bools. -/
def BRow (w : World) (g : Nat) (xs : List Bool) : Prop := Blk w g 4 (xs.map Value.bool)
theorem BRow.cell {w : World} {g : Nat} {xs : List Bool} (h : BRow w g xs) {i : Nat} (hi : i < xs.length) : w.cell? ⟨g, i, none⟩ = some (.bool (xs.getD i false)) := by
  rw [Blk.cell h]; simp [hi]
theorem BRow.frozen {w : World} {g : Nat} {xs : List Bool} (h : BRow w g xs) (i : Nat) : w.frozen? ⟨g, i, none⟩ = false := Blk.frozen h i
theorem BRow.set {w : World} {g : Nat} {xs : List Bool} (h : BRow w g xs) (i : Nat) (v : Bool) : BRow (w.setCell ⟨g, i, none⟩ (.bool v)) g (xs.set i v) := by
  unfold BRow at h ⊢
  rw [List.map_set]
  exact Blk.set h i _
theorem brow_row (w : World) (n : Nat) : BRow (w.alloc (.cells (brow n) 4)) w.heap.size (List.replicate n false) := Blk.alloc_new _ _ _
theorem getD_setB (xs : List Bool) (i j : Nat) (v : Bool) (h : i < xs.length) : (xs.set i v).getD j false = if j = i then v else xs.getD j false := by
  simp only [List.getD_eq_getElem?_getD, List.getElem?_set]
  by_cases e : i = j
  · subst e; simp [h]
  · have e' : ¬ j = i := fun h => e h.symm
    simp [e, e']

/-- The domain, as far as the first j symbols say it. -/
structure DomTo (cs us : List Int) (L : Nat) (S : List Bool) (total : Int) (j : Nat) : Prop where
  len : S.length = cs.length
  seen : ∀ i, i < j → S.getD (us.getD i 0).toNat false = true
  idx : ∀ i, i < j → 0 ≤ us.getD i 0 ∧ us.getD i 0 < cs.length ∧ us.getD i 0 < L
  dist : ∀ i k, i < j → k < j → us.getD i 0 = us.getD k 0 → i = k
  pos : ∀ i, i < j → 1 ≤ cs.getD (us.getD i 0).toNat 0
  asc : ∀ i, i + 1 < j → cs.getD (us.getD i 0).toNat 0 ≤ cs.getD (us.getD (i + 1) 0).toNat 0
  sum : total = Huff.sumF (wts cs us) j
  le : total ≤ 1125899906842624
  nn : 0 ≤ total

theorem DomTo.start (cs us : List Int) (L : Nat) : DomTo cs us L (List.replicate cs.length false) 0 0 :=
  ⟨by simp, fun i h => by omega, fun i h => by omega, fun i k h => by omega, fun i h => by omega, fun i h => by omega, rfl, by omega, by omega⟩

theorem DomTo.step {cs us : List Int} {L : Nat} {S : List Bool} {total c : Int} {j u : Nat} (h : DomTo cs us L S total j) (hu : us.getD j 0 = (u : Int)) (h1 : u < cs.length) (h2 : u < L) (hs : S.getD u false = false) (hc : c = cs.getD u 0) (hc1 : 1 ≤ c)
    (ht : total + c ≤ 1125899906842624) (ha : ∀ i, i + 1 = j → cs.getD (us.getD i 0).toNat 0 ≤ c) : DomTo cs us L (S.set u true) (total + c) (j + 1) := by
  have hset : ∀ x, (S.set u true).getD x false = if x = u then true else S.getD x false := fun x => getD_setB S u x true (by rw [h.len]; exact h1)
  have hun : (us.getD j 0).toNat = u := by omega
  have hw : wts cs us j = c := by unfold wts; rw [hun, hc]
  have hne : ∀ i, i < j → ¬ us.getD i 0 = us.getD j 0 := by
    intro i hi e
    have h3 := h.seen i hi
    rw [e, hun, hs] at h3
    cases h3
  refine ⟨by rw [List.length_set]; exact h.len, ?_, ?_, ?_, ?_, ?_, ?_, ht, by have := h.nn; omega⟩
  · intro i hi
    rw [hset]
    by_cases e : i = j
    · rw [if_pos (by rw [e, hun])]
    · split
      · rfl
      · exact h.seen i (by omega)
  · intro i hi
    by_cases e : i = j
    · rw [e, hu]; omega
    · exact h.idx i (by omega)
  · intro i k hi hk e
    by_cases ei : i = j
    · by_cases ek : k = j
      · omega
      · rw [ei] at e; exact absurd e.symm (hne k (by omega))
    · by_cases ek : k = j
      · rw [ek] at e; exact absurd e (hne i (by omega))
      · exact h.dist i k (by omega) (by omega) e
  · intro i hi
    by_cases e : i = j
    · rw [e, hun, ← hc]; exact hc1
    · exact h.pos i (by omega)
  · intro i hi
    by_cases e : i + 1 = j
    · rw [e, hun, ← hc]; exact ha i e
    · exact h.asc i (by omega)
  · rw [Huff.sumF_succ, hw, h.sum]

theorem DomTo.done {cs us : List Int} {L : Nat} {S : List Bool} {total : Int} (h : DomTo cs us L S total us.length) (h2 : 2 ≤ us.length) : HDom cs us L := by
  refine ⟨h2, h.idx, fun i j hi hj e => h.dist i j hi hj e, h.pos, ?_, by show Huff.sumF (wts cs us) us.length ≤ _; rw [← h.sum]; exact h.le⟩
  intro i j hij hj
  induction j with
  | zero => have : i = 0 := by omega
            rw [this]; exact Int.le_refl _
  | succ j ih =>
    by_cases e : i = j + 1
    · rw [e]; exact Int.le_refl _
    · exact Int.le_trans (ih (by omega) (by omega)) (h.asc j hj)

/-- What zzHuffmanDomain answers. -/
def DomPost (cs us : List Int) (L : Nat) (w : World) (e : Ending) (w' : World) : Prop := ∃ b : Bool, e = .returned (.bool b) ∧ (b = true → HDom cs us L) ∧ Below w.heap.size w w'
theorem domPost_false {cs us : List Int} {L : Nat} {w : World} {e : Ending} {w' : World} (he : e = .returned (.bool false)) (hb : Below w.heap.size w w') : DomPost cs us L w e w' := ⟨false, he, fun h => (by cases h), hb⟩
theorem domPost_true {cs us : List Int} {L : Nat} {w : World} {e : Ending} {w' : World} (he : e = .returned (.bool true)) (hd : HDom cs us L) (hb : Below w.heap.size w w') : DomPost cs us L w e w' := ⟨true, he, fun _ => hd, hb⟩

set_option maxRecDepth 100000 in
set_option maxHeartbeats 4000000 in
theorem dom_any (cs us : List Int) (ca ua la : Option Addr) (cc uc L lc : Nat) (w : World) (hc : Reads w .i64 ca cs) (hu : Reads w .i64 ua us) (hcl : cs.length ≤ 1048576) (hul : us.length ≤ 1048576) (hL : L ≤ 1048576) :
    Calls Try.prog 18 #[.slice ca cs.length cc, .slice ua us.length uc, .slice la L lc] w (DomPost cs us L w) := by
  have hmk := fun (w : World) => make_bools cs.length (by omega) w
  by_cases h2 : 2 ≤ us.length
  · have h2d : decide ((us.length : Int) < 2) = false := decide_eq_false (by omega)
    go_enter Try.func18, Try.ntmps18
    go_wp2
    go_loopg [8, 20] us.length (fun k tt t wx => ∃ (j : Nat) (S : List Bool) (total : Int), us.length - j ≤ k ∧ t = .int .i64 j ∧ j ≤ us.length ∧ tt = .int .i64 total ∧ DomTo cs us L S total j ∧ BRow wx w.heap.size S ∧ Below w.heap.size w wx)
    case atStart => exact ⟨0, _, 0, by omega, rfl, by omega, rfl, DomTo.start cs us L, brow_row w cs.length, (Below.refl _ _).alloc (Nat.le_refl _) _⟩
    case round =>
      obtain ⟨j, S, total, hk, rfl, hj, rfl, hd, hrow, hb⟩ := hrel
      have HD : Hid (DomTo cs us L S total j) := hd
      by_cases hlt : j < us.length
      · obtain ⟨ub, uo, rfl⟩ := hu.addr (by omega)
        obtain ⟨uz, huz⟩ : ∃ uz, uz = us.getD j 0 := ⟨_, rfl⟩
        have q1 : wr.cell? ⟨ub, uo + j, none⟩ = some (.int .i64 uz) := by rw [hb.cell (by exact (hu.at hlt).1), (hu.at hlt).2, huz]
        have HU : Hid (uz = us.getD j 0) := huz
        have i1 : (j : Int) < (us.length : Int) := by omega
        have t1 := hd.le
        have t2 := hd.nn
        clear huz hd
        by_cases c1 : uz < 0
        · go_wp2
          go_ret
          exact domPost_false rfl hb
        · by_cases c2 : (cs.length : Int) ≤ uz
          · go_wp2
            go_ret
            exact domPost_false rfl hb
          · by_cases c3 : (L : Int) ≤ uz
            · go_wp2
              go_ret
              exact domPost_false rfl hb
            · obtain ⟨u, rfl⟩ := Int.eq_ofNat_of_zero_le (show 0 ≤ uz by omega)
              obtain ⟨cb, co, rfl⟩ := hc.addr (by omega)
              have hul2 : u < cs.length := by omega
              have q2 := hrow.cell (show u < S.length by rw [HD.out.len]; omega)
              have q3 := hrow.frozen u
              obtain ⟨sv, hsv⟩ : ∃ sv, sv = S.getD u false := ⟨_, rfl⟩
              rw [← hsv] at q2
              have HSV : Hid (sv = S.getD u false) := hsv
              obtain ⟨c, hcv⟩ : ∃ c, c = cs.getD u 0 := ⟨_, rfl⟩
              have q4 : wr.cell? ⟨cb, co + u, none⟩ = some (.int .i64 c) := by rw [hb.cell (by exact (hc.at hul2).1), (hc.at hul2).2, hcv]
              have HCV : Hid (c = cs.getD u 0) := hcv
              have hcbne : cb < w.heap.size := (hc.at hul2).1
              have hubne : ub < w.heap.size := (hu.at hlt).1
              clear hsv hcv
              cases sv with
              | true =>
                go_wp2
                go_ret
                exact domPost_false rfl hb
              | false =>
                have hbs := hb.setCell (p := ⟨w.heap.size, u, none⟩) (Nat.le_refl _) (.bool true)
                by_cases c4 : c < 1
                · go_wp2
                  go_ret
                  exact domPost_false rfl hbs
                · by_cases c5 : 1125899906842624 < c
                  · go_wp2
                    go_ret
                    exact domPost_false rfl hbs
                  · by_cases c6 : 1125899906842624 < total + c
                    · go_wp2
                      go_ret
                      exact domPost_false rfl hbs
                    · by_cases hj0 : j = 0
                      · have hj1 : ¬ (0 : Int) < (j : Int) := by omega
                        clear hj0
                        go_wp2
                        go_roundg (us.length - (j + 1))
                        case measure => omega
                        case rel => exact ⟨j + 1, _, _, Nat.le_refl _, by go_num, by omega, rfl, HD.out.step HU.out.symm hul2 (by omega) HSV.out.symm HCV.out (by omega) (by omega) (fun i hi => by omega), hrow.set u true, hbs⟩
                      · have hp := HD.out.idx (j - 1) (by omega)
                        obtain ⟨p, hpz⟩ := Int.eq_ofNat_of_zero_le hp.1
                        have hpl : p < cs.length := by omega
                        have q5 : wr.cell? ⟨ub, uo + (j - 1), none⟩ = some (.int .i64 p) := by rw [hb.cell (by exact hubne), (hu.at (by omega)).2, hpz]
                        obtain ⟨cp, hcp⟩ : ∃ cp, cp = cs.getD p 0 := ⟨_, rfl⟩
                        have q6 : wr.cell? ⟨cb, co + p, none⟩ = some (.int .i64 cp) := by rw [hb.cell (by exact hcbne), (hc.at hpl).2, hcp]
                        have HCP : Hid (cp = cs.getD p 0 ∧ us.getD (j - 1) 0 = (p : Int)) := ⟨hcp, hpz⟩
                        have i2 : (0 : Int) < (j : Int) := by omega
                        have i3 : (p : Int) < (cs.length : Int) := by omega
                        clear hp hpz hcp
                        by_cases c7 : c < cp
                        · go_wp2
                          go_ret
                          exact domPost_false rfl hbs
                        · go_wp2
                          go_roundg (us.length - (j + 1))
                          case measure => omega
                          case rel => exact ⟨j + 1, _, _, Nat.le_refl _, by go_num, by omega, rfl, HD.out.step HU.out.symm hul2 (by omega) HSV.out.symm HCV.out (by omega) (by omega) (fun i hi => by rw [show i = j - 1 by omega, HCP.out.2, Int.toNat_natCast, ← HCP.out.1]; omega), hrow.set u true, hbs⟩
      · have hje : j = us.length := by omega
        go_wp2
        go_ret
        exact domPost_true rfl ((show DomTo cs us L S total us.length from hje ▸ HD.out).done h2) hb
  · go_enter Try.func18, Try.ntmps18
    go_wp2
    go_ret
    exact domPost_false rfl (Below.refl _ _)
end Go.Proofs.Qxb6604297a
