/-
  zzComplete (12).
-/
import Derived.Test.Qxb6604297aHuffW
import Derived.Test.Qxb6604297aKraft
set_option linter.unusedVariables false
namespace Go.Proofs.Qxb6604297a
open Go.ChangeShapes Go.WideShapes Go.ChangeAt Go.RowKit

theorem zero41 (w : World) : (zeroValue 41).run Try.prog w = .ok (.agg (zrow .i64 256)) w := by kernel_rfl

set_option maxRecDepth 100000 in
set_option maxHeartbeats 2000000 in
theorem complete_any (ls : List Int) (a : Option Addr) (c : Nat) (w : World) (hR : Reads w .u8 a ls) (hn : ls.length ≤ 1048576) (hb : Hid (∀ i, i < ls.length → 0 ≤ ls.getD i 0 ∧ ls.getD i 0 ≤ 255))
    (hk : Hid (Huff.sumF (fun i => if 0 < ls.getD i 0 then 2 ^ (255 - (ls.getD i 0).toNat) else 0) ls.length = 2 ^ 255)) :
    Calls Try.prog 12 #[.slice a ls.length c] w fun e w' => e = .returned (.bool true) ∧ Below w.heap.size w w' := by
  have hz := zero41
  go_enter Try.func12, Try.ntmps12
  go_upto_block 0 with fail
  go_cut [10] (fun _ wx => ∃ per, Huff.Per ls per ls.length ∧ Row wx w.heap.size 41 .i64 per ∧ Below w.heap.size w wx)
  case first =>
    go_wp2
    go_loopg [10] ls.length (fun k t wx => ∃ (j : Nat) (per : List Int), ls.length - j ≤ k ∧ t = .int .i64 j ∧ j ≤ ls.length ∧ Huff.Per ls per j ∧ Row wx w.heap.size 41 .i64 per ∧ Below w.heap.size w wx)
    case atStart => exact ⟨0, _, by omega, rfl, by omega, Huff.Per.start ls, zrow_row w .i64 41 256, (Below.refl _ _).alloc (Nat.le_refl _) _⟩
    case round =>
      obtain ⟨j, per, hk1, rfl, hj, hper, hrow, hbel⟩ := hrel
      have HP : Hid (Huff.Per ls per j) := hper
      clear hper
      by_cases hlt : j < ls.length
      · obtain ⟨b, off, rfl⟩ := hR.addr (by omega)
        have hbd := hb.out j hlt
        obtain ⟨l, hl⟩ := Int.eq_ofNat_of_zero_le hbd.1
        have q1 : wr.cell? ⟨b, off + j, none⟩ = some (.int .u8 l) := by rw [hbel.cell (by exact (hR.at hlt).1), (hR.at hlt).2, hl]
        have HL : Hid (ls.getD j 0 = (l : Int)) := hl
        have hl255 : l ≤ 255 := by omega
        have i1 : (l : Int) < 256 := by omega
        have q2 := hrow.cell (show l < per.length by rw [HP.out.len]; omega)
        have q3 := hrow.frozen l
        have p1 := HP.out.nn l
        have p2 := HP.out.le l
        obtain ⟨x, hx⟩ : ∃ x, x = per.getD l 0 := ⟨_, rfl⟩
        rw [← hx] at q2 p1 p2
        have HXX : Hid (x = per.getD l 0) := hx
        clear hl hbd hx
        by_cases h0 : (0 : Int) < (l : Int)
        · go_wp2
          go_roundg (ls.length - (j + 1))
          case measure => omega
          case rel => exact ⟨j + 1, per.set l (x + 1), Nat.le_refl _, by go_num, by omega, by rw [HXX.out]; exact HP.out.hit HL.out (by omega) hl255, hrow.set l (x + 1), hbel.setCell (Nat.le_refl _) _⟩
        · go_wp2
          go_roundg (ls.length - (j + 1))
          case measure => omega
          case rel => exact ⟨j + 1, per, Nat.le_refl _, by go_num, by omega, HP.out.skip (by rw [HL.out]; omega), hrow, hbel⟩
      · have hje : j = ls.length := by omega
        go_wp2
        go_meet
        case rel => exact ⟨per, hje ▸ HP.out, hrow, hbel⟩
  case rest =>
    obtain ⟨per, hper, hrow, hbel⟩ := hcut
    have hQ := hper.kraft hk.out
    have HQ : Hid (Huff.Q (fun l => per.getD l 0) 255 = 0) := hQ
    have HP : Hid (Huff.Per ls per ls.length) := hper
    clear hQ hper hz
    go_wp2
    go_loopg [6, 7] 255 (fun k tv td wx => wx = wc ∧ ∃ (d : Nat) (v : Int), d ≤ k ∧ d ≤ 255 ∧ td = .int .i64 d ∧ tv = .int .i64 v ∧ 0 ≤ v ∧ v ≤ 1048576 ∧ Hid (v = Huff.Q (fun l => per.getD l 0) d))
    case atStart => exact ⟨rfl, 255, 0, by omega, by omega, rfl, rfl, by omega, by omega, HQ.out.symm⟩
    case round =>
      obtain ⟨hwx, d, v, hdk, hd, rfl, rfl, hv0, hv1, HV⟩ := hrel
      subst hwx
      by_cases hd1 : 1 ≤ d
      · have q1 := hrow.cell (show d < per.length by rw [HP.out.len]; omega)
        have p1 := HP.out.nn d
        have p2 := HP.out.le d
        obtain ⟨x, hx⟩ : ∃ x, x = per.getD d 0 := ⟨_, rfl⟩
        rw [← hx] at q1 p1 p2
        obtain ⟨d', rfl⟩ : ∃ d', d = d' + 1 := ⟨d - 1, by omega⟩
        have hQs : v + x = 2 * Huff.Q (fun l => per.getD l 0) d' := by
          rw [HV.out, hx]
          show 2 * Huff.Q (fun l => per.getD l 0) d' - per.getD (d' + 1) 0 + per.getD (d' + 1) 0 = _
          omega
        obtain ⟨y, hy⟩ : ∃ y, y = Huff.Q (fun l => per.getD l 0) d' := ⟨_, rfl⟩
        rw [← hy] at hQs
        have HY : Hid (y = Huff.Q (fun l => per.getD l 0) d') := hy
        have hxy : x = 2 * y - v := by omega
        subst hxy
        clear hx hy hQs
        go_wp2
        go_roundg d'
        case measure => omega
        case rel => exact ⟨rfl, d', _, Nat.le_refl _, by omega, rfl, rfl, by omega, by omega, by rw [show (v + (2 * y - v)) / 2 = y by omega]; exact HY⟩
      · have hd0 : d = 0 := by omega
        have hv : v = 1 := by rw [HV.out, hd0]; rfl
        subst hv
        subst hd0
        go_wp2
        go_ret
        exact ⟨rfl, hbel⟩
end Go.Proofs.Qxb6604297a
