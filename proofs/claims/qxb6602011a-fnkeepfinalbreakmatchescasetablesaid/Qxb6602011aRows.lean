/-
  No cell of these rows narrows 'for every input' (looked for: loops, veiled, ifaces, maps, wideKeys, modest, calm, conditions, laid).
  DERIVED. THE GIVEN ROWS OF THIS SEAT. 7 by the template 'for every input the law returns true; each argument reads behind the call as it read before'; 0 by the template 'total and deterministic' (their statements: Qxb6602011aTotals.lean).
  GIVEN WITH THE SEED: the statements are not yours to turn. If you find one false, say at which input.
  Laid BY PROGRAM, IN A SANDBOX (cutbox-rows.mjs): the forced cells as the released guide's own fill.sh prints them over the translation fe379459cfa615e8… (all of the seat's roots in one cut). By AI agents, Wed Nov 11 2026. No macro, syntax, notation, axiom, sorry.
-/
import Derived.Test.Qxb6602011aChecked
import GoSem.Claim
import GoSem.ClaimJoined
import GoSem.ClaimMapViews
import Derived.JoinedTies
import Derived.KernelRfl
namespace Go.Proofs.Qxb6602011a
/- THE CELL 'sum', in the pinned program and in every row, IS THE sha256 OF THE DUMP (.gsa) THAT Qxb6602011aProg.lean LOADS. Nothing in Lean hashes anything: it is a label: what it is worth is what the hold of that sum in a sandbox is worth. -/
noncomputable def Try.pinned : Pinned := { name := "qxb6602011a", sum := "fe379459cfa615e8c35193baabb42934c0e1a738e0f3e1b9b15030fc168b8434", checked := Try.checked }
namespace Rows
def none {H : Type} : Left H := { results := [], args := [] }

/-- 'zzlaws_internal_krm_b1.FnPartEndMatchesLineModel': WHATEVER THE INPUT: true; the input reads as it did. -/
def fnPartEndMatchesLineModelSpec : ChangeSpec := { name := "fnPartEndMatchesLineModel", fn := fun _ => fun
  | [d1, d2, d3] => { results := [.lit (.bool true)], args := [d1, d2, d3] }
  | _ => none }
def fnPartEndMatchesLineModelRow : OpenClaim := { program := "qxb6602011a", sum := "fe379459cfa615e8c35193baabb42934c0e1a738e0f3e1b9b15030fc168b8434", func := "example.com/framelet/framelet/zzlaws_internal_krm_b1.FnPartEndMatchesLineModel", spec := "fnPartEndMatchesLineModel", apart := false }
def FnPartEndMatchesLineModelSaid : Prop := fnPartEndMatchesLineModelRow.holds Try.pinned (OpenSpec.ofChange fnPartEndMatchesLineModelSpec)

/-- ITS FALSE NEIGHBOUR: 'it returns false'. Refute it at one input. -/
def fnPartEndMatchesLineModelWrong : ChangeSpec := { name := "fnPartEndMatchesLineModel", fn := fun _ => fun
  | [d1, d2, d3] => { results := [.lit (.bool false)], args := [d1, d2, d3] }
  | _ => none }
def FnPartEndMatchesLineModelWrongFalsely : Prop := fnPartEndMatchesLineModelRow.holds Try.pinned (OpenSpec.ofChange fnPartEndMatchesLineModelWrong)

/-- 'zzlaws_internal_krm_b1.FnPartEndIdempotent': WHATEVER THE INPUT: true; the input reads as it did. -/
def fnPartEndIdempotentSpec : ChangeSpec := { name := "fnPartEndIdempotent", fn := fun _ => fun
  | [d1, d2, d3] => { results := [.lit (.bool true)], args := [d1, d2, d3] }
  | _ => none }
def fnPartEndIdempotentRow : OpenClaim := { program := "qxb6602011a", sum := "fe379459cfa615e8c35193baabb42934c0e1a738e0f3e1b9b15030fc168b8434", func := "example.com/framelet/framelet/zzlaws_internal_krm_b1.FnPartEndIdempotent", spec := "fnPartEndIdempotent", apart := false }
def FnPartEndIdempotentSaid : Prop := fnPartEndIdempotentRow.holds Try.pinned (OpenSpec.ofChange fnPartEndIdempotentSpec)

/-- ITS FALSE NEIGHBOUR: 'it returns false'. Refute it at one input. -/
def fnPartEndIdempotentWrong : ChangeSpec := { name := "fnPartEndIdempotent", fn := fun _ => fun
  | [d1, d2, d3] => { results := [.lit (.bool false)], args := [d1, d2, d3] }
  | _ => none }
def FnPartEndIdempotentWrongFalsely : Prop := fnPartEndIdempotentRow.holds Try.pinned (OpenSpec.ofChange fnPartEndIdempotentWrong)

/-- 'zzlaws_internal_krm_b1.FnPartEndAntitoneInBase': WHATEVER THE INPUT: true; the input reads as it did. -/
def fnPartEndAntitoneInBaseSpec : ChangeSpec := { name := "fnPartEndAntitoneInBase", fn := fun _ => fun
  | [d1, d2, d3, d4] => { results := [.lit (.bool true)], args := [d1, d2, d3, d4] }
  | _ => none }
def fnPartEndAntitoneInBaseRow : OpenClaim := { program := "qxb6602011a", sum := "fe379459cfa615e8c35193baabb42934c0e1a738e0f3e1b9b15030fc168b8434", func := "example.com/framelet/framelet/zzlaws_internal_krm_b1.FnPartEndAntitoneInBase", spec := "fnPartEndAntitoneInBase", apart := false }
def FnPartEndAntitoneInBaseSaid : Prop := fnPartEndAntitoneInBaseRow.holds Try.pinned (OpenSpec.ofChange fnPartEndAntitoneInBaseSpec)

/-- ITS FALSE NEIGHBOUR: 'it returns false'. Refute it at one input. -/
def fnPartEndAntitoneInBaseWrong : ChangeSpec := { name := "fnPartEndAntitoneInBase", fn := fun _ => fun
  | [d1, d2, d3, d4] => { results := [.lit (.bool false)], args := [d1, d2, d3, d4] }
  | _ => none }
def FnPartEndAntitoneInBaseWrongFalsely : Prop := fnPartEndAntitoneInBaseRow.holds Try.pinned (OpenSpec.ofChange fnPartEndAntitoneInBaseWrong)

/-- 'zzlaws_internal_krm_b1.FnAppendLinesUnshiftedKeepsText': WHATEVER THE INPUT: true; the input reads as it did. -/
def fnAppendLinesUnshiftedKeepsTextSpec : ChangeSpec := { name := "fnAppendLinesUnshiftedKeepsText", fn := fun _ => fun
  | [d1, d2, d3] => { results := [.lit (.bool true)], args := [d1, d2, d3] }
  | _ => none }
def fnAppendLinesUnshiftedKeepsTextRow : OpenClaim := { program := "qxb6602011a", sum := "fe379459cfa615e8c35193baabb42934c0e1a738e0f3e1b9b15030fc168b8434", func := "example.com/framelet/framelet/zzlaws_internal_krm_b1.FnAppendLinesUnshiftedKeepsText", spec := "fnAppendLinesUnshiftedKeepsText", apart := false }
def FnAppendLinesUnshiftedKeepsTextSaid : Prop := fnAppendLinesUnshiftedKeepsTextRow.holds Try.pinned (OpenSpec.ofChange fnAppendLinesUnshiftedKeepsTextSpec)

/-- ITS FALSE NEIGHBOUR: 'it returns false'. Refute it at one input. -/
def fnAppendLinesUnshiftedKeepsTextWrong : ChangeSpec := { name := "fnAppendLinesUnshiftedKeepsText", fn := fun _ => fun
  | [d1, d2, d3] => { results := [.lit (.bool false)], args := [d1, d2, d3] }
  | _ => none }
def FnAppendLinesUnshiftedKeepsTextWrongFalsely : Prop := fnAppendLinesUnshiftedKeepsTextRow.holds Try.pinned (OpenSpec.ofChange fnAppendLinesUnshiftedKeepsTextWrong)

/-- 'zzlaws_internal_krm_b1.FnKeepFinalBreakMatchesCaseTable': WHATEVER THE INPUT: true; the input reads as it did. -/
def fnKeepFinalBreakMatchesCaseTableSpec : ChangeSpec := { name := "fnKeepFinalBreakMatchesCaseTable", fn := fun _ => fun
  | [d1, d2, d3, d4, d5, d6] => { results := [.lit (.bool true)], args := [d1, d2, d3, d4, d5, d6] }
  | _ => none }
def fnKeepFinalBreakMatchesCaseTableRow : OpenClaim := { program := "qxb6602011a", sum := "fe379459cfa615e8c35193baabb42934c0e1a738e0f3e1b9b15030fc168b8434", func := "example.com/framelet/framelet/zzlaws_internal_krm_b1.FnKeepFinalBreakMatchesCaseTable", spec := "fnKeepFinalBreakMatchesCaseTable", apart := false }
def FnKeepFinalBreakMatchesCaseTableSaid : Prop := fnKeepFinalBreakMatchesCaseTableRow.holds Try.pinned (OpenSpec.ofChange fnKeepFinalBreakMatchesCaseTableSpec)

/-- ITS FALSE NEIGHBOUR: 'it returns false'. Refute it at one input. -/
def fnKeepFinalBreakMatchesCaseTableWrong : ChangeSpec := { name := "fnKeepFinalBreakMatchesCaseTable", fn := fun _ => fun
  | [d1, d2, d3, d4, d5, d6] => { results := [.lit (.bool false)], args := [d1, d2, d3, d4, d5, d6] }
  | _ => none }
def FnKeepFinalBreakMatchesCaseTableWrongFalsely : Prop := fnKeepFinalBreakMatchesCaseTableRow.holds Try.pinned (OpenSpec.ofChange fnKeepFinalBreakMatchesCaseTableWrong)

/-- 'zzlaws_internal_krm_b1.FnKeepFinalBreakLeavesStripChomping': WHATEVER THE INPUT: true; the input reads as it did. -/
def fnKeepFinalBreakLeavesStripChompingSpec : ChangeSpec := { name := "fnKeepFinalBreakLeavesStripChomping", fn := fun _ => fun
  | [d1, d2, d3, d4, d5, d6] => { results := [.lit (.bool true)], args := [d1, d2, d3, d4, d5, d6] }
  | _ => none }
def fnKeepFinalBreakLeavesStripChompingRow : OpenClaim := { program := "qxb6602011a", sum := "fe379459cfa615e8c35193baabb42934c0e1a738e0f3e1b9b15030fc168b8434", func := "example.com/framelet/framelet/zzlaws_internal_krm_b1.FnKeepFinalBreakLeavesStripChomping", spec := "fnKeepFinalBreakLeavesStripChomping", apart := false }
def FnKeepFinalBreakLeavesStripChompingSaid : Prop := fnKeepFinalBreakLeavesStripChompingRow.holds Try.pinned (OpenSpec.ofChange fnKeepFinalBreakLeavesStripChompingSpec)

/-- ITS FALSE NEIGHBOUR: 'it returns false'. Refute it at one input. -/
def fnKeepFinalBreakLeavesStripChompingWrong : ChangeSpec := { name := "fnKeepFinalBreakLeavesStripChomping", fn := fun _ => fun
  | [d1, d2, d3, d4, d5, d6] => { results := [.lit (.bool false)], args := [d1, d2, d3, d4, d5, d6] }
  | _ => none }
def FnKeepFinalBreakLeavesStripChompingWrongFalsely : Prop := fnKeepFinalBreakLeavesStripChompingRow.holds Try.pinned (OpenSpec.ofChange fnKeepFinalBreakLeavesStripChompingWrong)

/-- 'zzlaws_internal_krm_b1.FnKeepFinalBreakIdempotent': WHATEVER THE INPUT: true; the input reads as it did. -/
def fnKeepFinalBreakIdempotentSpec : ChangeSpec := { name := "fnKeepFinalBreakIdempotent", fn := fun _ => fun
  | [d1, d2, d3, d4, d5, d6] => { results := [.lit (.bool true)], args := [d1, d2, d3, d4, d5, d6] }
  | _ => none }
def fnKeepFinalBreakIdempotentRow : OpenClaim := { program := "qxb6602011a", sum := "fe379459cfa615e8c35193baabb42934c0e1a738e0f3e1b9b15030fc168b8434", func := "example.com/framelet/framelet/zzlaws_internal_krm_b1.FnKeepFinalBreakIdempotent", spec := "fnKeepFinalBreakIdempotent", apart := false }
def FnKeepFinalBreakIdempotentSaid : Prop := fnKeepFinalBreakIdempotentRow.holds Try.pinned (OpenSpec.ofChange fnKeepFinalBreakIdempotentSpec)

/-- ITS FALSE NEIGHBOUR: 'it returns false'. Refute it at one input. -/
def fnKeepFinalBreakIdempotentWrong : ChangeSpec := { name := "fnKeepFinalBreakIdempotent", fn := fun _ => fun
  | [d1, d2, d3, d4, d5, d6] => { results := [.lit (.bool false)], args := [d1, d2, d3, d4, d5, d6] }
  | _ => none }
def FnKeepFinalBreakIdempotentWrongFalsely : Prop := fnKeepFinalBreakIdempotentRow.holds Try.pinned (OpenSpec.ofChange fnKeepFinalBreakIdempotentWrong)

end Rows
end Go.Proofs.Qxb6602011a
