/-
  The small functions on the roads of the two laws on huffman: 16, 17, 18, 19, 20, 22.
-/
import Derived.Test.Qxb6604297aHuffC
set_option linter.unusedVariables false
namespace Go.Proofs.Qxb6604297a
open Go.ChangeShapes Go.WideShapes Go.ChangeAt Go.RowKit

theorem wide_any (w : World) : Calls Try.prog 17 #[] w fun e w' => e = .returned (.bool true) ∧ w = w' := by
  go_enter Try.func17, Try.ntmps17
  go_wp2
  go_ret
  exact ⟨rfl, rfl⟩

theorem bytes16 (a0 a1 a2 : Option Addr) (n0 c0 n1 c1 n2 c2 : Nat) (w : World) :
    Calls Try.prog 16 #[.slice a0 n0 c0, .slice a1 n1 c1, .slice a2 n2 c2] w fun e w' => ∃ b, e = .returned (.bool b) ∧ w = w' := by
  by_cases h0 : n0 ≤ 1048576
  · by_cases h1 : n1 ≤ 1048576
    · by_cases h2 : n2 ≤ 1048576
      · go_enter Try.func16, Try.ntmps16
        go_wp2
        all_goals (go_ret; exact ⟨_, rfl, rfl⟩)
      · go_enter Try.func16, Try.ntmps16
        go_wp2
        all_goals (go_ret; exact ⟨_, rfl, rfl⟩)
    · go_enter Try.func16, Try.ntmps16
      go_wp2
      all_goals (go_ret; exact ⟨_, rfl, rfl⟩)
  · go_enter Try.func16, Try.ntmps16
    go_wp2
    all_goals (go_ret; exact ⟨_, rfl, rfl⟩)
theorem bytes22 (a0 a1 a2 : Option Addr) (n0 c0 n1 c1 n2 c2 : Nat) (w : World) :
    Calls Try.prog 22 #[.slice a0 n0 c0, .slice a1 n1 c1, .slice a2 n2 c2] w fun e w' => ∃ b, e = .returned (.bool b) ∧ w = w' := by
  by_cases h0 : n0 ≤ 1048576
  · by_cases h1 : n1 ≤ 1048576
    · by_cases h2 : n2 ≤ 1048576
      · go_enter Try.func22, Try.ntmps22
        go_wp2
        all_goals (go_ret; exact ⟨_, rfl, rfl⟩)
      · go_enter Try.func22, Try.ntmps22
        go_wp2
        all_goals (go_ret; exact ⟨_, rfl, rfl⟩)
    · go_enter Try.func22, Try.ntmps22
      go_wp2
      all_goals (go_ret; exact ⟨_, rfl, rfl⟩)
  · go_enter Try.func22, Try.ntmps22
    go_wp2
    all_goals (go_ret; exact ⟨_, rfl, rfl⟩)

set_option maxHeartbeats 1000000 in
theorem zzhuffman_any (cs us ls : List Int) (ca ua : Option Addr) (cc uc lc gL : Nat) (w : World) (hc : Reads w .i64 ca cs) (hu : Reads w .i64 ua us) (hl : Row w gL 5 .u8 ls) (hcg : ∀ x, ca = some x → x.block ≠ gL) (hug : ∀ x, ua = some x → x.block ≠ gL)
    (hd : HDom cs us ls.length) (hsz : us.length ≤ 4096) :
    Calls Try.prog 20 #[.slice ca cs.length cc, .slice ua us.length uc, .slice (some ⟨gL, 0, none⟩) ls.length lc] w fun e w' => ∃ (W P D L' : List Int), Huff.Tree us.length (wts cs us) W P ∧ Huff.Dep us.length P D 0 ∧ e = .returned (.int .i64 (D.getD 0 0)) ∧
      Row w' gL 5 .u8 L' ∧ HLeft us ls L' D 0 ∧ Keeps (fun k => k = gL ∨ w.heap.size ≤ k) w w' := by
  go_enter Try.func20, Try.ntmps20
  go_wp2_with (go_at_call 26; refine (huffman_any cs us ls ca ua cc uc lc gL w hc hu hl hcg hug hd hsz).mono ?_; rintro e w' ⟨W, P, D, L', h1, h2, rfl, h3, h4, h5⟩)
  go_ret
  exact ⟨W, P, D, L', h1, h2, rfl, h3, h4, h5⟩

set_option maxHeartbeats 1000000 in
theorem zzhuffman_run (cs us ls : List Int) (ca ua : Option Addr) (cc uc lc gL : Nat) (w : World) (hc : Reads w .i64 ca cs) (hu : Reads w .i64 ua us) (hl : Row w gL 5 .u8 ls) (hcg : ∀ x, ca = some x → x.block ≠ gL) (hug : ∀ x, ua = some x → x.block ≠ gL)
    (hd : HDom cs us ls.length) (hsz : us.length ≤ 4096) :
    Calls Try.prog 20 #[.slice ca cs.length cc, .slice ua us.length uc, .slice (some ⟨gL, 0, none⟩) ls.length lc] w fun e w' => ∃ (s0 : Huff.HS) (D L' : List Int), HStart (wts cs us) us.length s0 ∧ Huff.Dep us.length (Huff.hrun us.length s0 (us.length - 1)).P D 0 ∧ e = .returned (.int .i64 (D.getD 0 0)) ∧
      Row w' gL 5 .u8 L' ∧ HLeft us ls L' D 0 ∧ Keeps (fun k => k = gL ∨ w.heap.size ≤ k) w w' := by
  go_enter Try.func20, Try.ntmps20
  go_wp2_with (go_at_call 26; refine (huffman_run cs us ls ca ua cc uc lc gL w hc hu hl hcg hug hd hsz).mono ?_; rintro e w' ⟨s0, D, L', h1, h2, rfl, h3, h4, h5⟩)
  go_ret
  exact ⟨s0, D, L', h1, h2, rfl, h3, h4, h5⟩

theorem list_ext {X Y : List Int} (hl : X.length = Y.length) (h : ∀ i, i < X.length → X.getD i 0 = Y.getD i 0) : X = Y := by
  apply List.ext_getElem hl
  intro i h1 h2
  have := h i h1
  rw [List.getD_eq_getElem?_getD, List.getD_eq_getElem?_getD, List.getElem?_eq_getElem h1, List.getElem?_eq_getElem h2] at this
  simpa using this

set_option maxRecDepth 100000 in
set_option maxHeartbeats 1000000 in
/-- zzCloneBytes: a new row of the same bytes (a nil slice stays nil). -/
theorem clone_any (ys : List Int) (a : Option Addr) (c : Nat) (w : World) (hR : Reads w .u8 a ys) (hsz : ys.length ≤ 1048576) (hnn : a ≠ none) :
    Calls Try.prog 19 #[.slice a ys.length c] w fun e w' => e = .returned (.slice (some ⟨w.heap.size, 0, none⟩) ys.length ys.length) ∧ Row w' w.heap.size 5 .u8 ys ∧ Below w.heap.size w w' ∧ w'.heap.size = w.heap.size + 1 := by
  have hmk := fun (w : World) => make_ints 26 5 .u8 1 Try.underlying26 Try.info5 (by decide) ys.length ys.length (Nat.le_refl _) (by omega) w
  have hneq := fun (w : World) => Lib.run_eql_slice_nil (P := Try.prog) w 26 5 a ys.length c 0 0 Try.underlying26
  obtain ⟨x, rfl⟩ : ∃ x, a = some x := by cases a with
    | none => exact absurd rfl hnn
    | some x => exact ⟨x, rfl⟩
  go_enter Try.func19, Try.ntmps19
  go_wp2
  go_loopg [12] ys.length (fun k t wx => ∃ (j : Nat) (X : List Int), ys.length - j ≤ k ∧ t = .int .i64 j ∧ j ≤ ys.length ∧ X.length = ys.length ∧ (∀ i, i < j → X.getD i 0 = ys.getD i 0) ∧ Row wx w.heap.size 5 .u8 X ∧ Below w.heap.size w wx ∧ wx.heap.size = w.heap.size + 1)
  case atStart => exact ⟨0, _, by omega, rfl, by omega, by simp, fun i hi => by omega, zrow_row w .u8 5 ys.length, (Below.refl _ _).alloc (Nat.le_refl _) _, by simp⟩
  case round =>
    obtain ⟨j, X, hk, rfl, hj, hXl, hX, hrow, hb, hs⟩ := hrel
    have HX : Hid (X.length = ys.length ∧ (∀ i, i < j → X.getD i 0 = ys.getD i 0) ∧ wr.heap.size = w.heap.size + 1) := ⟨hXl, hX, hs⟩
    by_cases hlt : j < ys.length
    · obtain ⟨b, off, hab, hbs, hc⟩ := hR j hlt
      obtain rfl := Option.some.inj hab
      obtain ⟨v, hv⟩ : ∃ v, v = ys.getD j 0 := ⟨_, rfl⟩
      have q1 : wr.cell? ⟨b, off + j, none⟩ = some (.int .u8 v) := by rw [hb.cell (by exact hbs), hc, hv]
      have q2 := hrow.cell (show j < X.length by omega)
      have q3 := hrow.frozen j
      have HV : Hid (v = ys.getD j 0) := hv
      clear hv hX hs hXl hc hab
      go_wp2
      go_roundg (ys.length - (j + 1))
      case measure => omega
      case rel =>
        refine ⟨j + 1, X.set j v, Nat.le_refl _, by go_num, by omega, by rw [List.length_set]; exact HX.out.1, ?_, hrow.set j v, hb.setCell (Nat.le_refl _) _, by simp [World.setCell]; exact HX.out.2.2⟩
        intro i hi
        rw [Huff.getD_set _ _ _ _ (by rw [HX.out.1]; exact hlt)]
        by_cases e : i = j
        · rw [if_pos e, e]; exact HV.out
        · rw [if_neg e]; exact HX.out.2.1 i (by omega)
    · clear hX hs hXl
      go_wp2
      go_ret
      have e : X = ys := list_ext HX.out.1 (fun i hi => HX.out.2.1 i (by have := HX.out.1; omega))
      subst e
      exact ⟨rfl, hrow, hb, HX.out.2.2⟩
end Go.Proofs.Qxb6604297a
