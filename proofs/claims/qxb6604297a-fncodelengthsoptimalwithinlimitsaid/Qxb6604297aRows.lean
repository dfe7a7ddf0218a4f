/-
  No cell of these rows narrows 'for every input' (looked for: loops, veiled, ifaces, maps, wideKeys, modest, calm, conditions, laid).
  DERIVED. THE GIVEN ROWS OF THIS SEAT. 5 by the template 'for every input the law returns true; each argument reads behind the call as it read before'; 0 by the template 'total and deterministic' (their statements: Qxb6604297aTotals.lean).
  GIVEN WITH THE SEED: the statements are not yours to turn. If you find one false, say at which input.
  Laid BY PROGRAM, IN A SANDBOX (cutbox-rows.mjs): the forced cells as the released guide's own fill.sh prints them over the translation dd7e3c49dff7809b… (all of the seat's roots in one cut). By AI agents, Wed Nov 11 2026. No macro, syntax, notation, axiom, sorry.
-/
import Derived.Test.Qxb6604297aChecked
import GoSem.Claim
import GoSem.ClaimJoined
import GoSem.ClaimMapViews
import Derived.JoinedTies
import Derived.KernelRfl
namespace Go.Proofs.Qxb6604297a
/- THE CELL 'sum', in the pinned program and in every row, IS THE sha256 OF THE DUMP (.gsa) THAT Qxb6604297aProg.lean LOADS. Nothing in Lean hashes anything: it is a label: what it is worth is what the hold of that sum in a sandbox is worth. -/
noncomputable def Try.pinned : Pinned := { name := "qxb6604297a", sum := "dd7e3c49dff7809b41755150e91a3e1710f94ffa937dd7e4391873ff30726017", checked := Try.checked }
namespace Rows
def none {H : Type} : Left H := { results := [], args := [] }

/-- 'zzlaws_internal_squeeze_b1.FnCodeLengthsOptimalWithinLimit': WHATEVER THE INPUT: true; the input reads as it did. -/
def fnCodeLengthsOptimalWithinLimitSpec : ChangeSpec := { name := "fnCodeLengthsOptimalWithinLimit", fn := fun _ => fun
  | [d1, d2] => { results := [.lit (.bool true)], args := [d1, d2] }
  | _ => none }
def fnCodeLengthsOptimalWithinLimitRow : OpenClaim := { program := "qxb6604297a", sum := "dd7e3c49dff7809b41755150e91a3e1710f94ffa937dd7e4391873ff30726017", func := "example.com/tidemark/tidemark/zzlaws_internal_squeeze_b1.FnCodeLengthsOptimalWithinLimit", spec := "fnCodeLengthsOptimalWithinLimit", unfollowed := true, recurses := true, apart := false }
def FnCodeLengthsOptimalWithinLimitSaid : Prop := fnCodeLengthsOptimalWithinLimitRow.holds Try.pinned (OpenSpec.ofChange fnCodeLengthsOptimalWithinLimitSpec)

/-- ITS FALSE NEIGHBOUR: 'it returns false'. Refute it at one input. -/
def fnCodeLengthsOptimalWithinLimitWrong : ChangeSpec := { name := "fnCodeLengthsOptimalWithinLimit", fn := fun _ => fun
  | [d1, d2] => { results := [.lit (.bool false)], args := [d1, d2] }
  | _ => none }
def FnCodeLengthsOptimalWithinLimitWrongFalsely : Prop := fnCodeLengthsOptimalWithinLimitRow.holds Try.pinned (OpenSpec.ofChange fnCodeLengthsOptimalWithinLimitWrong)

/-- 'zzlaws_internal_squeeze_b1.FnCodeLengthsHeavierNeverLonger': WHATEVER THE INPUT: true; the input reads as it did. -/
def fnCodeLengthsHeavierNeverLongerSpec : ChangeSpec := { name := "fnCodeLengthsHeavierNeverLonger", fn := fun _ => fun
  | [d1, d2] => { results := [.lit (.bool true)], args := [d1, d2] }
  | _ => none }
def fnCodeLengthsHeavierNeverLongerRow : OpenClaim := { program := "qxb6604297a", sum := "dd7e3c49dff7809b41755150e91a3e1710f94ffa937dd7e4391873ff30726017", func := "example.com/tidemark/tidemark/zzlaws_internal_squeeze_b1.FnCodeLengthsHeavierNeverLonger", spec := "fnCodeLengthsHeavierNeverLonger", unfollowed := true, recurses := true, apart := false }
def FnCodeLengthsHeavierNeverLongerSaid : Prop := fnCodeLengthsHeavierNeverLongerRow.holds Try.pinned (OpenSpec.ofChange fnCodeLengthsHeavierNeverLongerSpec)

/-- ITS FALSE NEIGHBOUR: 'it returns false'. Refute it at one input. -/
def fnCodeLengthsHeavierNeverLongerWrong : ChangeSpec := { name := "fnCodeLengthsHeavierNeverLonger", fn := fun _ => fun
  | [d1, d2] => { results := [.lit (.bool false)], args := [d1, d2] }
  | _ => none }
def FnCodeLengthsHeavierNeverLongerWrongFalsely : Prop := fnCodeLengthsHeavierNeverLongerRow.holds Try.pinned (OpenSpec.ofChange fnCodeLengthsHeavierNeverLongerWrong)

/-- 'zzlaws_internal_squeeze_b1.FnHuffmanOptimalCompleteCode': WHATEVER THE INPUT: true; the input reads as it did. -/
def fnHuffmanOptimalCompleteCodeSpec : ChangeSpec := { name := "fnHuffmanOptimalCompleteCode", fn := fun _ => fun
  | [d1, d2, d3] => { results := [.lit (.bool true)], args := [d1, d2, d3] }
  | _ => none }
def fnHuffmanOptimalCompleteCodeRow : OpenClaim := { program := "qxb6604297a", sum := "dd7e3c49dff7809b41755150e91a3e1710f94ffa937dd7e4391873ff30726017", func := "example.com/tidemark/tidemark/zzlaws_internal_squeeze_b1.FnHuffmanOptimalCompleteCode", spec := "fnHuffmanOptimalCompleteCode", unfollowed := true, recurses := true, apart := false }
def FnHuffmanOptimalCompleteCodeSaid : Prop := fnHuffmanOptimalCompleteCodeRow.holds Try.pinned (OpenSpec.ofChange fnHuffmanOptimalCompleteCodeSpec)

/-- ITS FALSE NEIGHBOUR: 'it returns false'. Refute it at one input. -/
def fnHuffmanOptimalCompleteCodeWrong : ChangeSpec := { name := "fnHuffmanOptimalCompleteCode", fn := fun _ => fun
  | [d1, d2, d3] => { results := [.lit (.bool false)], args := [d1, d2, d3] }
  | _ => none }
def FnHuffmanOptimalCompleteCodeWrongFalsely : Prop := fnHuffmanOptimalCompleteCodeRow.holds Try.pinned (OpenSpec.ofChange fnHuffmanOptimalCompleteCodeWrong)

/-- 'zzlaws_internal_squeeze_b1.FnHuffmanDeepestFirstAlongUsed': WHATEVER THE INPUT: true; the input reads as it did. -/
def fnHuffmanDeepestFirstAlongUsedSpec : ChangeSpec := { name := "fnHuffmanDeepestFirstAlongUsed", fn := fun _ => fun
  | [d1, d2, d3] => { results := [.lit (.bool true)], args := [d1, d2, d3] }
  | _ => none }
def fnHuffmanDeepestFirstAlongUsedRow : OpenClaim := { program := "qxb6604297a", sum := "dd7e3c49dff7809b41755150e91a3e1710f94ffa937dd7e4391873ff30726017", func := "example.com/tidemark/tidemark/zzlaws_internal_squeeze_b1.FnHuffmanDeepestFirstAlongUsed", spec := "fnHuffmanDeepestFirstAlongUsed", unfollowed := true, recurses := true, apart := false }
def FnHuffmanDeepestFirstAlongUsedSaid : Prop := fnHuffmanDeepestFirstAlongUsedRow.holds Try.pinned (OpenSpec.ofChange fnHuffmanDeepestFirstAlongUsedSpec)

/-- ITS FALSE NEIGHBOUR: 'it returns false'. Refute it at one input. -/
def fnHuffmanDeepestFirstAlongUsedWrong : ChangeSpec := { name := "fnHuffmanDeepestFirstAlongUsed", fn := fun _ => fun
  | [d1, d2, d3] => { results := [.lit (.bool false)], args := [d1, d2, d3] }
  | _ => none }
def FnHuffmanDeepestFirstAlongUsedWrongFalsely : Prop := fnHuffmanDeepestFirstAlongUsedRow.holds Try.pinned (OpenSpec.ofChange fnHuffmanDeepestFirstAlongUsedWrong)

/-- 'zzlaws_internal_squeeze_b1.FnLengthRunDecodesBack': WHATEVER THE INPUT: true; the input reads as it did. -/
def fnLengthRunDecodesBackSpec : ChangeSpec := { name := "fnLengthRunDecodesBack", fn := fun _ => fun
  | [d1, d2] => { results := [.lit (.bool true)], args := [d1, d2] }
  | _ => none }
def fnLengthRunDecodesBackRow : OpenClaim := { program := "qxb6604297a", sum := "dd7e3c49dff7809b41755150e91a3e1710f94ffa937dd7e4391873ff30726017", func := "example.com/tidemark/tidemark/zzlaws_internal_squeeze_b1.FnLengthRunDecodesBack", spec := "fnLengthRunDecodesBack", apart := false }
def FnLengthRunDecodesBackSaid : Prop := fnLengthRunDecodesBackRow.holds Try.pinned (OpenSpec.ofChange fnLengthRunDecodesBackSpec)

/-- ITS FALSE NEIGHBOUR: 'it returns false'. Refute it at one input. -/
def fnLengthRunDecodesBackWrong : ChangeSpec := { name := "fnLengthRunDecodesBack", fn := fun _ => fun
  | [d1, d2] => { results := [.lit (.bool false)], args := [d1, d2] }
  | _ => none }
def FnLengthRunDecodesBackWrongFalsely : Prop := fnLengthRunDecodesBackRow.holds Try.pinned (OpenSpec.ofChange fnLengthRunDecodesBackWrong)

end Rows
end Go.Proofs.Qxb6604297a
