/-
  No cell of these rows narrows 'for every input' (looked for: loops, veiled, ifaces, maps, wideKeys, modest, calm, conditions, laid).
  DERIVED. THE GIVEN ROWS OF THIS SEAT. 3 by the template 'for every input the law returns true; each argument reads behind the call as it read before'; 0 by the template 'total and deterministic' (their statements: Qxb6604776aTotals.lean).
  GIVEN WITH THE SEED: the statements are not yours to turn. If you find one false, say at which input.
  Laid BY PROGRAM, IN A SANDBOX (cutbox-rows.mjs): the forced cells as the released guide's own fill.sh prints them over the translation 6317b1236400dfdd… (all of the seat's roots in one cut). By AI agents, Wed Nov 11 2026. No macro, syntax, notation, axiom, sorry.
-/
import Derived.Test.Qxb6604776aChecked
import GoSem.Claim
import GoSem.ClaimJoined
import GoSem.ClaimMapViews
import Derived.JoinedTies
import Derived.KernelRfl
namespace Go.Proofs.Qxb6604776a
/- THE CELL 'sum', in the pinned program and in every row, IS THE sha256 OF THE DUMP (.gsa) THAT Qxb6604776aProg.lean LOADS. Nothing in Lean hashes anything: it is a label: what it is worth is what the hold of that sum in a sandbox is worth. -/
noncomputable def Try.pinned : Pinned := { name := "qxb6604776a", sum := "6317b1236400dfddbe3de8f937c3b614e7710ee86491a88ce036246d696685ba", checked := Try.checked }
namespace Rows
def none {H : Type} : Left H := { results := [], args := [] }

/-- 'zzlaws_internal_bank_b1.FnBranchOfSpec': WHATEVER THE INPUT: true; the input reads as it did. -/
def fnBranchOfSpecSpec : ChangeSpec := { name := "fnBranchOfSpec", fn := fun _ => fun
  | [d] => { results := [.lit (.bool true)], args := [d] }
  | _ => none }
def fnBranchOfSpecRow : OpenClaim := { program := "qxb6604776a", sum := "6317b1236400dfddbe3de8f937c3b614e7710ee86491a88ce036246d696685ba", func := "example.com/deputy/deputy/zzlaws_internal_bank_b1.FnBranchOfSpec", spec := "fnBranchOfSpec", apart := false }
def FnBranchOfSpecSaid : Prop := fnBranchOfSpecRow.holds Try.pinned (OpenSpec.ofChange fnBranchOfSpecSpec)

/-- ITS FALSE NEIGHBOUR: 'it returns false'. Refute it at one input. -/
def fnBranchOfSpecWrong : ChangeSpec := { name := "fnBranchOfSpec", fn := fun _ => fun
  | [d] => { results := [.lit (.bool false)], args := [d] }
  | _ => none }
def FnBranchOfSpecWrongFalsely : Prop := fnBranchOfSpecRow.holds Try.pinned (OpenSpec.ofChange fnBranchOfSpecWrong)

/-- 'zzlaws_internal_bank_b1.FnBranchOfNextUserNextBranch': WHATEVER THE INPUT: true; the input reads as it did. -/
def fnBranchOfNextUserNextBranchSpec : ChangeSpec := { name := "fnBranchOfNextUserNextBranch", fn := fun _ => fun
  | [d] => { results := [.lit (.bool true)], args := [d] }
  | _ => none }
def fnBranchOfNextUserNextBranchRow : OpenClaim := { program := "qxb6604776a", sum := "6317b1236400dfddbe3de8f937c3b614e7710ee86491a88ce036246d696685ba", func := "example.com/deputy/deputy/zzlaws_internal_bank_b1.FnBranchOfNextUserNextBranch", spec := "fnBranchOfNextUserNextBranch", apart := false }
def FnBranchOfNextUserNextBranchSaid : Prop := fnBranchOfNextUserNextBranchRow.holds Try.pinned (OpenSpec.ofChange fnBranchOfNextUserNextBranchSpec)

/-- ITS FALSE NEIGHBOUR: 'it returns false'. Refute it at one input. -/
def fnBranchOfNextUserNextBranchWrong : ChangeSpec := { name := "fnBranchOfNextUserNextBranch", fn := fun _ => fun
  | [d] => { results := [.lit (.bool false)], args := [d] }
  | _ => none }
def FnBranchOfNextUserNextBranchWrongFalsely : Prop := fnBranchOfNextUserNextBranchRow.holds Try.pinned (OpenSpec.ofChange fnBranchOfNextUserNextBranchWrong)

/-- 'zzlaws_internal_bank_b1.FnBranchOfInRangeAndNoMoreThanUser': WHATEVER THE INPUT: true; the input reads as it did. -/
def fnBranchOfInRangeAndNoMoreThanUserSpec : ChangeSpec := { name := "fnBranchOfInRangeAndNoMoreThanUser", fn := fun _ => fun
  | [d] => { results := [.lit (.bool true)], args := [d] }
  | _ => none }
def fnBranchOfInRangeAndNoMoreThanUserRow : OpenClaim := { program := "qxb6604776a", sum := "6317b1236400dfddbe3de8f937c3b614e7710ee86491a88ce036246d696685ba", func := "example.com/deputy/deputy/zzlaws_internal_bank_b1.FnBranchOfInRangeAndNoMoreThanUser", spec := "fnBranchOfInRangeAndNoMoreThanUser", apart := false }
def FnBranchOfInRangeAndNoMoreThanUserSaid : Prop := fnBranchOfInRangeAndNoMoreThanUserRow.holds Try.pinned (OpenSpec.ofChange fnBranchOfInRangeAndNoMoreThanUserSpec)

/-- ITS FALSE NEIGHBOUR: 'it returns false'. Refute it at one input. -/
def fnBranchOfInRangeAndNoMoreThanUserWrong : ChangeSpec := { name := "fnBranchOfInRangeAndNoMoreThanUser", fn := fun _ => fun
  | [d] => { results := [.lit (.bool false)], args := [d] }
  | _ => none }
def FnBranchOfInRangeAndNoMoreThanUserWrongFalsely : Prop := fnBranchOfInRangeAndNoMoreThanUserRow.holds Try.pinned (OpenSpec.ofChange fnBranchOfInRangeAndNoMoreThanUserWrong)

end Rows
end Go.Proofs.Qxb6604776a
