/-
  No cell of these rows narrows 'for every input' (looked for: loops, veiled, ifaces, maps, wideKeys, modest, calm, conditions, laid).
  DERIVED. THE GIVEN ROWS OF THIS SEAT. 2 by the template 'for every input the law returns true; each argument reads behind the call as it read before'; 0 by the template 'total and deterministic' (their statements: Qxb6603588aTotals.lean).
  GIVEN WITH THE SEED: the statements are not yours to turn. If you find one false, say at which input.
  Laid BY PROGRAM, IN A SANDBOX (cutbox-rows.mjs): the forced cells as the released guide's own fill.sh prints them over the translation b81a85c968928eda… (all of the seat's roots in one cut). By AI agents, Wed Nov 11 2026. No macro, syntax, notation, axiom, sorry.
-/
import Derived.Test.Qxb6603588aChecked
import GoSem.Claim
import GoSem.ClaimJoined
import GoSem.ClaimMapViews
import Derived.JoinedTies
import Derived.KernelRfl
namespace Go.Proofs.Qxb6603588a
/- THE CELL 'sum', in the pinned program and in every row, IS THE sha256 OF THE DUMP (.gsa) THAT Qxb6603588aProg.lean LOADS. Nothing in Lean hashes anything: it is a label: what it is worth is what the hold of that sum in a sandbox is worth. -/
noncomputable def Try.pinned : Pinned := { name := "qxb6603588a", sum := "b81a85c968928eda18ac81d3092542a623ee075b443e0a10e6b4c02253e8ec8c", checked := Try.checked }
namespace Rows
def none {H : Type} : Left H := { results := [], args := [] }

/-- 'zzlaws_internal_ledger_b1.FnStateGetAfterScriptIsLastWrite': WHATEVER THE INPUT: true; the input reads as it did. -/
def fnStateGetAfterScriptIsLastWriteSpec : ChangeSpec := { name := "fnStateGetAfterScriptIsLastWrite", fn := fun _ => fun
  | [d1, d2] => { results := [.lit (.bool true)], args := [d1, d2] }
  | _ => none }
def fnStateGetAfterScriptIsLastWriteRow : OpenClaim := { program := "qxb6603588a", sum := "b81a85c968928eda18ac81d3092542a623ee075b443e0a10e6b4c02253e8ec8c", func := "example.com/archipelago/archipelago/zzlaws_internal_ledger_b1.FnStateGetAfterScriptIsLastWrite", spec := "fnStateGetAfterScriptIsLastWrite", unfollowed := true, recurses := true, apart := false }
def FnStateGetAfterScriptIsLastWriteSaid : Prop := fnStateGetAfterScriptIsLastWriteRow.holds Try.pinned (OpenSpec.ofChange fnStateGetAfterScriptIsLastWriteSpec)

/-- ITS FALSE NEIGHBOUR: 'it returns false'. Refute it at one input. -/
def fnStateGetAfterScriptIsLastWriteWrong : ChangeSpec := { name := "fnStateGetAfterScriptIsLastWrite", fn := fun _ => fun
  | [d1, d2] => { results := [.lit (.bool false)], args := [d1, d2] }
  | _ => none }
def FnStateGetAfterScriptIsLastWriteWrongFalsely : Prop := fnStateGetAfterScriptIsLastWriteRow.holds Try.pinned (OpenSpec.ofChange fnStateGetAfterScriptIsLastWriteWrong)

/-- 'zzlaws_internal_ledger_b1.FnStatePutSetsKeyLeavesOthers': WHATEVER THE INPUT: true; the input reads as it did. -/
def fnStatePutSetsKeyLeavesOthersSpec : ChangeSpec := { name := "fnStatePutSetsKeyLeavesOthers", fn := fun _ => fun
  | [d1, d2, d3, d4] => { results := [.lit (.bool true)], args := [d1, d2, d3, d4] }
  | _ => none }
def fnStatePutSetsKeyLeavesOthersRow : OpenClaim := { program := "qxb6603588a", sum := "b81a85c968928eda18ac81d3092542a623ee075b443e0a10e6b4c02253e8ec8c", func := "example.com/archipelago/archipelago/zzlaws_internal_ledger_b1.FnStatePutSetsKeyLeavesOthers", spec := "fnStatePutSetsKeyLeavesOthers", unfollowed := true, recurses := true, apart := false }
def FnStatePutSetsKeyLeavesOthersSaid : Prop := fnStatePutSetsKeyLeavesOthersRow.holds Try.pinned (OpenSpec.ofChange fnStatePutSetsKeyLeavesOthersSpec)

/-- ITS FALSE NEIGHBOUR: 'it returns false'. Refute it at one input. -/
def fnStatePutSetsKeyLeavesOthersWrong : ChangeSpec := { name := "fnStatePutSetsKeyLeavesOthers", fn := fun _ => fun
  | [d1, d2, d3, d4] => { results := [.lit (.bool false)], args := [d1, d2, d3, d4] }
  | _ => none }
def FnStatePutSetsKeyLeavesOthersWrongFalsely : Prop := fnStatePutSetsKeyLeavesOthersRow.holds Try.pinned (OpenSpec.ofChange fnStatePutSetsKeyLeavesOthersWrong)

end Rows
end Go.Proofs.Qxb6603588a
