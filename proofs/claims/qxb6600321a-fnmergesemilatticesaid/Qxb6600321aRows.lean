/-
  No cell of these rows narrows 'for every input' (looked for: loops, veiled, ifaces, maps, wideKeys, modest, calm, conditions, laid).
  DERIVED. THE GIVEN ROWS OF THIS SEAT. 8 by the template 'for every input the law returns true; each argument reads behind the call as it read before'; 0 by the template 'total and deterministic' (their statements: Qxb6600321aTotals.lean).
  GIVEN WITH THE SEED: the statements are not yours to turn. If you find one false, say at which input.
  Laid BY PROGRAM, IN A SANDBOX (cutbox-rows.mjs): the forced cells as the released guide's own fill.sh prints them over the translation 232af6405a44eb10… (all of the seat's roots in one cut). By AI agents, Wed Nov 11 2026. No macro, syntax, notation, axiom, sorry.
-/
import Derived.Test.Qxb6600321aChecked
import GoSem.Claim
import GoSem.ClaimJoined
import GoSem.ClaimMapViews
import Derived.JoinedTies
import Derived.KernelRfl
namespace Go.Proofs.Qxb6600321a
/- THE CELL 'sum', in the pinned program and in every row, IS THE sha256 OF THE DUMP (.gsa) THAT Qxb6600321aProg.lean LOADS. Nothing in Lean hashes anything: it is a label: what it is worth is what the hold of that sum in a sandbox is worth. -/
noncomputable def Try.pinned : Pinned := { name := "qxb6600321a", sum := "232af6405a44eb10d4030f9c40e821ec1ca7cc3d03a355f097b8f23fb4ef38e0", checked := Try.checked }
namespace Rows
def none {H : Type} : Left H := { results := [], args := [] }

/-- 'zzlaws_internal_history_b1.FnMergeComponentwiseMax': WHATEVER THE INPUT: true; the input reads as it did. -/
def fnMergeComponentwiseMaxSpec : ChangeSpec := { name := "fnMergeComponentwiseMax", fn := fun _ => fun
  | [d1, d2] => { results := [.lit (.bool true)], args := [d1, d2] }
  | _ => none }
def fnMergeComponentwiseMaxRow : OpenClaim := { program := "qxb6600321a", sum := "232af6405a44eb10d4030f9c40e821ec1ca7cc3d03a355f097b8f23fb4ef38e0", func := "example.com/consistory/consistory/zzlaws_internal_history_b1.FnMergeComponentwiseMax", spec := "fnMergeComponentwiseMax", apart := false }
def FnMergeComponentwiseMaxSaid : Prop := fnMergeComponentwiseMaxRow.holds Try.pinned (OpenSpec.ofChange fnMergeComponentwiseMaxSpec)

/-- ITS FALSE NEIGHBOUR: 'it returns false'. Refute it at one input. -/
def fnMergeComponentwiseMaxWrong : ChangeSpec := { name := "fnMergeComponentwiseMax", fn := fun _ => fun
  | [d1, d2] => { results := [.lit (.bool false)], args := [d1, d2] }
  | _ => none }
def FnMergeComponentwiseMaxWrongFalsely : Prop := fnMergeComponentwiseMaxRow.holds Try.pinned (OpenSpec.ofChange fnMergeComponentwiseMaxWrong)

/-- 'zzlaws_internal_history_b1.FnMergeLeastUpperBound': WHATEVER THE INPUT: true; the input reads as it did. -/
def fnMergeLeastUpperBoundSpec : ChangeSpec := { name := "fnMergeLeastUpperBound", fn := fun _ => fun
  | [d1, d2, d3] => { results := [.lit (.bool true)], args := [d1, d2, d3] }
  | _ => none }
def fnMergeLeastUpperBoundRow : OpenClaim := { program := "qxb6600321a", sum := "232af6405a44eb10d4030f9c40e821ec1ca7cc3d03a355f097b8f23fb4ef38e0", func := "example.com/consistory/consistory/zzlaws_internal_history_b1.FnMergeLeastUpperBound", spec := "fnMergeLeastUpperBound", apart := false }
def FnMergeLeastUpperBoundSaid : Prop := fnMergeLeastUpperBoundRow.holds Try.pinned (OpenSpec.ofChange fnMergeLeastUpperBoundSpec)

/-- ITS FALSE NEIGHBOUR: 'it returns false'. Refute it at one input. -/
def fnMergeLeastUpperBoundWrong : ChangeSpec := { name := "fnMergeLeastUpperBound", fn := fun _ => fun
  | [d1, d2, d3] => { results := [.lit (.bool false)], args := [d1, d2, d3] }
  | _ => none }
def FnMergeLeastUpperBoundWrongFalsely : Prop := fnMergeLeastUpperBoundRow.holds Try.pinned (OpenSpec.ofChange fnMergeLeastUpperBoundWrong)

/-- 'zzlaws_internal_history_b1.FnMergeSemilattice': WHATEVER THE INPUT: true; the input reads as it did. -/
def fnMergeSemilatticeSpec : ChangeSpec := { name := "fnMergeSemilattice", fn := fun _ => fun
  | [d1, d2, d3] => { results := [.lit (.bool true)], args := [d1, d2, d3] }
  | _ => none }
def fnMergeSemilatticeRow : OpenClaim := { program := "qxb6600321a", sum := "232af6405a44eb10d4030f9c40e821ec1ca7cc3d03a355f097b8f23fb4ef38e0", func := "example.com/consistory/consistory/zzlaws_internal_history_b1.FnMergeSemilattice", spec := "fnMergeSemilattice", apart := false }
def FnMergeSemilatticeSaid : Prop := fnMergeSemilatticeRow.holds Try.pinned (OpenSpec.ofChange fnMergeSemilatticeSpec)

/-- ITS FALSE NEIGHBOUR: 'it returns false'. Refute it at one input. -/
def fnMergeSemilatticeWrong : ChangeSpec := { name := "fnMergeSemilattice", fn := fun _ => fun
  | [d1, d2, d3] => { results := [.lit (.bool false)], args := [d1, d2, d3] }
  | _ => none }
def FnMergeSemilatticeWrongFalsely : Prop := fnMergeSemilatticeRow.holds Try.pinned (OpenSpec.ofChange fnMergeSemilatticeWrong)

/-- 'zzlaws_internal_history_b1.FnAtMostAgreesWithMerge': WHATEVER THE INPUT: true; the input reads as it did. -/
def fnAtMostAgreesWithMergeSpec : ChangeSpec := { name := "fnAtMostAgreesWithMerge", fn := fun _ => fun
  | [d1, d2] => { results := [.lit (.bool true)], args := [d1, d2] }
  | _ => none }
def fnAtMostAgreesWithMergeRow : OpenClaim := { program := "qxb6600321a", sum := "232af6405a44eb10d4030f9c40e821ec1ca7cc3d03a355f097b8f23fb4ef38e0", func := "example.com/consistory/consistory/zzlaws_internal_history_b1.FnAtMostAgreesWithMerge", spec := "fnAtMostAgreesWithMerge", apart := false }
def FnAtMostAgreesWithMergeSaid : Prop := fnAtMostAgreesWithMergeRow.holds Try.pinned (OpenSpec.ofChange fnAtMostAgreesWithMergeSpec)

/-- ITS FALSE NEIGHBOUR: 'it returns false'. Refute it at one input. -/
def fnAtMostAgreesWithMergeWrong : ChangeSpec := { name := "fnAtMostAgreesWithMerge", fn := fun _ => fun
  | [d1, d2] => { results := [.lit (.bool false)], args := [d1, d2] }
  | _ => none }
def FnAtMostAgreesWithMergeWrongFalsely : Prop := fnAtMostAgreesWithMergeRow.holds Try.pinned (OpenSpec.ofChange fnAtMostAgreesWithMergeWrong)

/-- 'zzlaws_internal_history_b1.FnAtMostPartialOrder': WHATEVER THE INPUT: true; the input reads as it did. -/
def fnAtMostPartialOrderSpec : ChangeSpec := { name := "fnAtMostPartialOrder", fn := fun _ => fun
  | [d1, d2, d3] => { results := [.lit (.bool true)], args := [d1, d2, d3] }
  | _ => none }
def fnAtMostPartialOrderRow : OpenClaim := { program := "qxb6600321a", sum := "232af6405a44eb10d4030f9c40e821ec1ca7cc3d03a355f097b8f23fb4ef38e0", func := "example.com/consistory/consistory/zzlaws_internal_history_b1.FnAtMostPartialOrder", spec := "fnAtMostPartialOrder", apart := false }
def FnAtMostPartialOrderSaid : Prop := fnAtMostPartialOrderRow.holds Try.pinned (OpenSpec.ofChange fnAtMostPartialOrderSpec)

/-- ITS FALSE NEIGHBOUR: 'it returns false'. Refute it at one input. -/
def fnAtMostPartialOrderWrong : ChangeSpec := { name := "fnAtMostPartialOrder", fn := fun _ => fun
  | [d1, d2, d3] => { results := [.lit (.bool false)], args := [d1, d2, d3] }
  | _ => none }
def FnAtMostPartialOrderWrongFalsely : Prop := fnAtMostPartialOrderRow.holds Try.pinned (OpenSpec.ofChange fnAtMostPartialOrderWrong)

/-- 'zzlaws_internal_history_b1.FnBeforeIsStrictAtMost': WHATEVER THE INPUT: true; the input reads as it did. -/
def fnBeforeIsStrictAtMostSpec : ChangeSpec := { name := "fnBeforeIsStrictAtMost", fn := fun _ => fun
  | [d1, d2] => { results := [.lit (.bool true)], args := [d1, d2] }
  | _ => none }
def fnBeforeIsStrictAtMostRow : OpenClaim := { program := "qxb6600321a", sum := "232af6405a44eb10d4030f9c40e821ec1ca7cc3d03a355f097b8f23fb4ef38e0", func := "example.com/consistory/consistory/zzlaws_internal_history_b1.FnBeforeIsStrictAtMost", spec := "fnBeforeIsStrictAtMost", apart := false }
def FnBeforeIsStrictAtMostSaid : Prop := fnBeforeIsStrictAtMostRow.holds Try.pinned (OpenSpec.ofChange fnBeforeIsStrictAtMostSpec)

/-- ITS FALSE NEIGHBOUR: 'it returns false'. Refute it at one input. -/
def fnBeforeIsStrictAtMostWrong : ChangeSpec := { name := "fnBeforeIsStrictAtMost", fn := fun _ => fun
  | [d1, d2] => { results := [.lit (.bool false)], args := [d1, d2] }
  | _ => none }
def FnBeforeIsStrictAtMostWrongFalsely : Prop := fnBeforeIsStrictAtMostRow.holds Try.pinned (OpenSpec.ofChange fnBeforeIsStrictAtMostWrong)

/-- 'zzlaws_internal_history_b1.FnBeforeStrictOrder': WHATEVER THE INPUT: true; the input reads as it did. -/
def fnBeforeStrictOrderSpec : ChangeSpec := { name := "fnBeforeStrictOrder", fn := fun _ => fun
  | [d1, d2, d3] => { results := [.lit (.bool true)], args := [d1, d2, d3] }
  | _ => none }
def fnBeforeStrictOrderRow : OpenClaim := { program := "qxb6600321a", sum := "232af6405a44eb10d4030f9c40e821ec1ca7cc3d03a355f097b8f23fb4ef38e0", func := "example.com/consistory/consistory/zzlaws_internal_history_b1.FnBeforeStrictOrder", spec := "fnBeforeStrictOrder", apart := false }
def FnBeforeStrictOrderSaid : Prop := fnBeforeStrictOrderRow.holds Try.pinned (OpenSpec.ofChange fnBeforeStrictOrderSpec)

/-- ITS FALSE NEIGHBOUR: 'it returns false'. Refute it at one input. -/
def fnBeforeStrictOrderWrong : ChangeSpec := { name := "fnBeforeStrictOrder", fn := fun _ => fun
  | [d1, d2, d3] => { results := [.lit (.bool false)], args := [d1, d2, d3] }
  | _ => none }
def FnBeforeStrictOrderWrongFalsely : Prop := fnBeforeStrictOrderRow.holds Try.pinned (OpenSpec.ofChange fnBeforeStrictOrderWrong)

/-- 'zzlaws_internal_history_b1.FnBeforeMergeStep': WHATEVER THE INPUT: true; the input reads as it did. -/
def fnBeforeMergeStepSpec : ChangeSpec := { name := "fnBeforeMergeStep", fn := fun _ => fun
  | [d1, d2] => { results := [.lit (.bool true)], args := [d1, d2] }
  | _ => none }
def fnBeforeMergeStepRow : OpenClaim := { program := "qxb6600321a", sum := "232af6405a44eb10d4030f9c40e821ec1ca7cc3d03a355f097b8f23fb4ef38e0", func := "example.com/consistory/consistory/zzlaws_internal_history_b1.FnBeforeMergeStep", spec := "fnBeforeMergeStep", apart := false }
def FnBeforeMergeStepSaid : Prop := fnBeforeMergeStepRow.holds Try.pinned (OpenSpec.ofChange fnBeforeMergeStepSpec)

/-- ITS FALSE NEIGHBOUR: 'it returns false'. Refute it at one input. -/
def fnBeforeMergeStepWrong : ChangeSpec := { name := "fnBeforeMergeStep", fn := fun _ => fun
  | [d1, d2] => { results := [.lit (.bool false)], args := [d1, d2] }
  | _ => none }
def FnBeforeMergeStepWrongFalsely : Prop := fnBeforeMergeStepRow.holds Try.pinned (OpenSpec.ofChange fnBeforeMergeStepWrong)

end Rows
end Go.Proofs.Qxb6600321a
