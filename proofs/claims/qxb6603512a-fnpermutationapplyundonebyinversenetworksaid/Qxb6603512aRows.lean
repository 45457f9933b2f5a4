/-
  No cell of these rows narrows 'for every input' (looked for: loops, veiled, ifaces, maps, wideKeys, modest, calm, conditions, laid).
  DERIVED. THE GIVEN ROWS OF THIS SEAT. 4 by the template 'for every input the law returns true; each argument reads behind the call as it read before'; 0 by the template 'total and deterministic' (their statements: Qxb6603512aTotals.lean).
  GIVEN WITH THE SEED: the statements are not yours to turn. If you find one false, say at which input.
  Laid BY PROGRAM, IN A SANDBOX (cutbox-rows.mjs): the forced cells as the released guide's own fill.sh prints them over the translation 44ba0051086e247c… (all of the seat's roots in one cut). By AI agents, Wed Nov 11 2026. No macro, syntax, notation, axiom, sorry.
-/
import Derived.Test.Qxb6603512aChecked
import GoSem.Claim
import GoSem.ClaimJoined
import GoSem.ClaimMapViews
import Derived.JoinedTies
import Derived.KernelRfl
namespace Go.Proofs.Qxb6603512a
/- THE CELL 'sum', in the pinned program and in every row, IS THE sha256 OF THE DUMP (.gsa) THAT Qxb6603512aProg.lean LOADS. Nothing in Lean hashes anything: it is a label: what it is worth is what the hold of that sum in a sandbox is worth. -/
noncomputable def Try.pinned : Pinned := { name := "qxb6603512a", sum := "44ba0051086e247c1da88cba463e1184dd1665fc7564205d6e2962855b7c948a", checked := Try.checked }
namespace Rows
def none {H : Type} : Left H := { results := [], args := [] }

/-- 'zzlaws_internal_ycsb_b1.FnRecordKeyIsPrefixThenZeroPaddedDecimal': WHATEVER THE INPUT: true; the input reads as it did. -/
def fnRecordKeyIsPrefixThenZeroPaddedDecimalSpec : ChangeSpec := { name := "fnRecordKeyIsPrefixThenZeroPaddedDecimal", fn := fun _ => fun
  | [d1, d2] => { results := [.lit (.bool true)], args := [d1, d2] }
  | _ => none }
def fnRecordKeyIsPrefixThenZeroPaddedDecimalRow : OpenClaim := { program := "qxb6603512a", sum := "44ba0051086e247c1da88cba463e1184dd1665fc7564205d6e2962855b7c948a", func := "example.com/farhold/farhold/zzlaws_internal_ycsb_b1.FnRecordKeyIsPrefixThenZeroPaddedDecimal", spec := "fnRecordKeyIsPrefixThenZeroPaddedDecimal", apart := false }
def FnRecordKeyIsPrefixThenZeroPaddedDecimalSaid : Prop := fnRecordKeyIsPrefixThenZeroPaddedDecimalRow.holds Try.pinned (OpenSpec.ofChange fnRecordKeyIsPrefixThenZeroPaddedDecimalSpec)

/-- ITS FALSE NEIGHBOUR: 'it returns false'. Refute it at one input. -/
def fnRecordKeyIsPrefixThenZeroPaddedDecimalWrong : ChangeSpec := { name := "fnRecordKeyIsPrefixThenZeroPaddedDecimal", fn := fun _ => fun
  | [d1, d2] => { results := [.lit (.bool false)], args := [d1, d2] }
  | _ => none }
def FnRecordKeyIsPrefixThenZeroPaddedDecimalWrongFalsely : Prop := fnRecordKeyIsPrefixThenZeroPaddedDecimalRow.holds Try.pinned (OpenSpec.ofChange fnRecordKeyIsPrefixThenZeroPaddedDecimalWrong)

/-- 'zzlaws_internal_ycsb_b1.FnRecordKeyOrderFollowsRecordNumber': WHATEVER THE INPUT: true; the input reads as it did. -/
def fnRecordKeyOrderFollowsRecordNumberSpec : ChangeSpec := { name := "fnRecordKeyOrderFollowsRecordNumber", fn := fun _ => fun
  | [d1, d2, d3] => { results := [.lit (.bool true)], args := [d1, d2, d3] }
  | _ => none }
def fnRecordKeyOrderFollowsRecordNumberRow : OpenClaim := { program := "qxb6603512a", sum := "44ba0051086e247c1da88cba463e1184dd1665fc7564205d6e2962855b7c948a", func := "example.com/farhold/farhold/zzlaws_internal_ycsb_b1.FnRecordKeyOrderFollowsRecordNumber", spec := "fnRecordKeyOrderFollowsRecordNumber", apart := false }
def FnRecordKeyOrderFollowsRecordNumberSaid : Prop := fnRecordKeyOrderFollowsRecordNumberRow.holds Try.pinned (OpenSpec.ofChange fnRecordKeyOrderFollowsRecordNumberSpec)

/-- ITS FALSE NEIGHBOUR: 'it returns false'. Refute it at one input. -/
def fnRecordKeyOrderFollowsRecordNumberWrong : ChangeSpec := { name := "fnRecordKeyOrderFollowsRecordNumber", fn := fun _ => fun
  | [d1, d2, d3] => { results := [.lit (.bool false)], args := [d1, d2, d3] }
  | _ => none }
def FnRecordKeyOrderFollowsRecordNumberWrongFalsely : Prop := fnRecordKeyOrderFollowsRecordNumberRow.holds Try.pinned (OpenSpec.ofChange fnRecordKeyOrderFollowsRecordNumberWrong)

/-- 'zzlaws_internal_ycsb_b1.FnPermutationApplyUndoneByInverseNetwork': WHATEVER THE INPUT: true; the input reads as it did. -/
def fnPermutationApplyUndoneByInverseNetworkSpec : ChangeSpec := { name := "fnPermutationApplyUndoneByInverseNetwork", fn := fun _ => fun
  | [d1, d2, d3, d4] => { results := [.lit (.bool true)], args := [d1, d2, d3, d4] }
  | _ => none }
def fnPermutationApplyUndoneByInverseNetworkRow : OpenClaim := { program := "qxb6603512a", sum := "44ba0051086e247c1da88cba463e1184dd1665fc7564205d6e2962855b7c948a", func := "example.com/farhold/farhold/zzlaws_internal_ycsb_b1.FnPermutationApplyUndoneByInverseNetwork", spec := "fnPermutationApplyUndoneByInverseNetwork", apart := false }
def FnPermutationApplyUndoneByInverseNetworkSaid : Prop := fnPermutationApplyUndoneByInverseNetworkRow.holds Try.pinned (OpenSpec.ofChange fnPermutationApplyUndoneByInverseNetworkSpec)

/-- ITS FALSE NEIGHBOUR: 'it returns false'. Refute it at one input. -/
def fnPermutationApplyUndoneByInverseNetworkWrong : ChangeSpec := { name := "fnPermutationApplyUndoneByInverseNetwork", fn := fun _ => fun
  | [d1, d2, d3, d4] => { results := [.lit (.bool false)], args := [d1, d2, d3, d4] }
  | _ => none }
def FnPermutationApplyUndoneByInverseNetworkWrongFalsely : Prop := fnPermutationApplyUndoneByInverseNetworkRow.holds Try.pinned (OpenSpec.ofChange fnPermutationApplyUndoneByInverseNetworkWrong)

/-- 'zzlaws_internal_ycsb_b1.FnPermutationApplyUndoesInverseNetwork': WHATEVER THE INPUT: true; the input reads as it did. -/
def fnPermutationApplyUndoesInverseNetworkSpec : ChangeSpec := { name := "fnPermutationApplyUndoesInverseNetwork", fn := fun _ => fun
  | [d1, d2, d3, d4] => { results := [.lit (.bool true)], args := [d1, d2, d3, d4] }
  | _ => none }
def fnPermutationApplyUndoesInverseNetworkRow : OpenClaim := { program := "qxb6603512a", sum := "44ba0051086e247c1da88cba463e1184dd1665fc7564205d6e2962855b7c948a", func := "example.com/farhold/farhold/zzlaws_internal_ycsb_b1.FnPermutationApplyUndoesInverseNetwork", spec := "fnPermutationApplyUndoesInverseNetwork", apart := false }
def FnPermutationApplyUndoesInverseNetworkSaid : Prop := fnPermutationApplyUndoesInverseNetworkRow.holds Try.pinned (OpenSpec.ofChange fnPermutationApplyUndoesInverseNetworkSpec)

/-- ITS FALSE NEIGHBOUR: 'it returns false'. Refute it at one input. -/
def fnPermutationApplyUndoesInverseNetworkWrong : ChangeSpec := { name := "fnPermutationApplyUndoesInverseNetwork", fn := fun _ => fun
  | [d1, d2, d3, d4] => { results := [.lit (.bool false)], args := [d1, d2, d3, d4] }
  | _ => none }
def FnPermutationApplyUndoesInverseNetworkWrongFalsely : Prop := fnPermutationApplyUndoesInverseNetworkRow.holds Try.pinned (OpenSpec.ofChange fnPermutationApplyUndoesInverseNetworkWrong)

end Rows
end Go.Proofs.Qxb6603512a
