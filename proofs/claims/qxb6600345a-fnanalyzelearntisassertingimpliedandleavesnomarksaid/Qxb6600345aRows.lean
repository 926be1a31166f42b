/-
  No cell of these rows narrows 'for every input' (looked for: loops, veiled, ifaces, maps, wideKeys, modest, calm, conditions, laid).
  DERIVED. THE GIVEN ROWS OF THIS SEAT. 6 by the template 'for every input the law returns true; each argument reads behind the call as it read before'; 0 by the template 'total and deterministic' (their statements: Qxb6600345aTotals.lean).
  GIVEN WITH THE SEED: the statements are not yours to turn. If you find one false, say at which input.
  Laid BY PROGRAM, IN A SANDBOX (cutbox-rows.mjs): the forced cells as the released guide's own fill.sh prints them over the translation e25711cc2f3a0ba3… (all of the seat's roots in one cut). By AI agents, Wed Nov 11 2026. No macro, syntax, notation, axiom, sorry.
-/
import Derived.Test.Qxb6600345aChecked
import GoSem.Claim
import GoSem.ClaimJoined
import GoSem.ClaimMapViews
import Derived.JoinedTies
import Derived.KernelRfl
namespace Go.Proofs.Qxb6600345a
/- THE CELL 'sum', in the pinned program and in every row, IS THE sha256 OF THE DUMP (.gsa) THAT Qxb6600345aProg.lean LOADS. Nothing in Lean hashes anything: it is a label: what it is worth is what the hold of that sum in a sandbox is worth. -/
noncomputable def Try.pinned : Pinned := { name := "qxb6600345a", sum := "e25711cc2f3a0ba3d427ca48e45f65bb0ae14c8dc8e70348cc8824b5fb74839a", checked := Try.checked }
namespace Rows
def none {H : Type} : Left H := { results := [], args := [] }

/-- 'zzlaws_sat_b1.FnPropagateAgreesWithNaiveUnitClosure': WHATEVER THE INPUT: true; the input reads as it did. -/
def fnPropagateAgreesWithNaiveUnitClosureSpec : ChangeSpec := { name := "fnPropagateAgreesWithNaiveUnitClosure", fn := fun _ => fun
  | [d1, d2, d3] => { results := [.lit (.bool true)], args := [d1, d2, d3] }
  | _ => none }
def fnPropagateAgreesWithNaiveUnitClosureRow : OpenClaim := { program := "qxb6600345a", sum := "e25711cc2f3a0ba3d427ca48e45f65bb0ae14c8dc8e70348cc8824b5fb74839a", func := "example.com/flowsure/flowsure/zzlaws_sat_b1.FnPropagateAgreesWithNaiveUnitClosure", spec := "fnPropagateAgreesWithNaiveUnitClosure", apart := false }
def FnPropagateAgreesWithNaiveUnitClosureSaid : Prop := fnPropagateAgreesWithNaiveUnitClosureRow.holds Try.pinned (OpenSpec.ofChange fnPropagateAgreesWithNaiveUnitClosureSpec)

/-- ITS FALSE NEIGHBOUR: 'it returns false'. Refute it at one input. -/
def fnPropagateAgreesWithNaiveUnitClosureWrong : ChangeSpec := { name := "fnPropagateAgreesWithNaiveUnitClosure", fn := fun _ => fun
  | [d1, d2, d3] => { results := [.lit (.bool false)], args := [d1, d2, d3] }
  | _ => none }
def FnPropagateAgreesWithNaiveUnitClosureWrongFalsely : Prop := fnPropagateAgreesWithNaiveUnitClosureRow.holds Try.pinned (OpenSpec.ofChange fnPropagateAgreesWithNaiveUnitClosureWrong)

/-- 'zzlaws_sat_b1.FnPropagateLeavesATrailOfSoundReasons': WHATEVER THE INPUT: true; the input reads as it did. -/
def fnPropagateLeavesATrailOfSoundReasonsSpec : ChangeSpec := { name := "fnPropagateLeavesATrailOfSoundReasons", fn := fun _ => fun
  | [d1, d2, d3] => { results := [.lit (.bool true)], args := [d1, d2, d3] }
  | _ => none }
def fnPropagateLeavesATrailOfSoundReasonsRow : OpenClaim := { program := "qxb6600345a", sum := "e25711cc2f3a0ba3d427ca48e45f65bb0ae14c8dc8e70348cc8824b5fb74839a", func := "example.com/flowsure/flowsure/zzlaws_sat_b1.FnPropagateLeavesATrailOfSoundReasons", spec := "fnPropagateLeavesATrailOfSoundReasons", apart := false }
def FnPropagateLeavesATrailOfSoundReasonsSaid : Prop := fnPropagateLeavesATrailOfSoundReasonsRow.holds Try.pinned (OpenSpec.ofChange fnPropagateLeavesATrailOfSoundReasonsSpec)

/-- ITS FALSE NEIGHBOUR: 'it returns false'. Refute it at one input. -/
def fnPropagateLeavesATrailOfSoundReasonsWrong : ChangeSpec := { name := "fnPropagateLeavesATrailOfSoundReasons", fn := fun _ => fun
  | [d1, d2, d3] => { results := [.lit (.bool false)], args := [d1, d2, d3] }
  | _ => none }
def FnPropagateLeavesATrailOfSoundReasonsWrongFalsely : Prop := fnPropagateLeavesATrailOfSoundReasonsRow.holds Try.pinned (OpenSpec.ofChange fnPropagateLeavesATrailOfSoundReasonsWrong)

/-- 'zzlaws_sat_b1.FnAnalyzeLearnsTheFirstUIPClause': WHATEVER THE INPUT: true; the input reads as it did. -/
def fnAnalyzeLearnsTheFirstUIPClauseSpec : ChangeSpec := { name := "fnAnalyzeLearnsTheFirstUIPClause", fn := fun _ => fun
  | [d1, d2, d3] => { results := [.lit (.bool true)], args := [d1, d2, d3] }
  | _ => none }
def fnAnalyzeLearnsTheFirstUIPClauseRow : OpenClaim := { program := "qxb6600345a", sum := "e25711cc2f3a0ba3d427ca48e45f65bb0ae14c8dc8e70348cc8824b5fb74839a", func := "example.com/flowsure/flowsure/zzlaws_sat_b1.FnAnalyzeLearnsTheFirstUIPClause", spec := "fnAnalyzeLearnsTheFirstUIPClause", apart := false }
def FnAnalyzeLearnsTheFirstUIPClauseSaid : Prop := fnAnalyzeLearnsTheFirstUIPClauseRow.holds Try.pinned (OpenSpec.ofChange fnAnalyzeLearnsTheFirstUIPClauseSpec)

/-- ITS FALSE NEIGHBOUR: 'it returns false'. Refute it at one input. -/
def fnAnalyzeLearnsTheFirstUIPClauseWrong : ChangeSpec := { name := "fnAnalyzeLearnsTheFirstUIPClause", fn := fun _ => fun
  | [d1, d2, d3] => { results := [.lit (.bool false)], args := [d1, d2, d3] }
  | _ => none }
def FnAnalyzeLearnsTheFirstUIPClauseWrongFalsely : Prop := fnAnalyzeLearnsTheFirstUIPClauseRow.holds Try.pinned (OpenSpec.ofChange fnAnalyzeLearnsTheFirstUIPClauseWrong)

/-- 'zzlaws_sat_b1.FnAnalyzeLearntIsAssertingImpliedAndLeavesNoMark': WHATEVER THE INPUT: true; the input reads as it did. -/
def fnAnalyzeLearntIsAssertingImpliedAndLeavesNoMarkSpec : ChangeSpec := { name := "fnAnalyzeLearntIsAssertingImpliedAndLeavesNoMark", fn := fun _ => fun
  | [d1, d2, d3] => { results := [.lit (.bool true)], args := [d1, d2, d3] }
  | _ => none }
def fnAnalyzeLearntIsAssertingImpliedAndLeavesNoMarkRow : OpenClaim := { program := "qxb6600345a", sum := "e25711cc2f3a0ba3d427ca48e45f65bb0ae14c8dc8e70348cc8824b5fb74839a", func := "example.com/flowsure/flowsure/zzlaws_sat_b1.FnAnalyzeLearntIsAssertingImpliedAndLeavesNoMark", spec := "fnAnalyzeLearntIsAssertingImpliedAndLeavesNoMark", apart := false }
def FnAnalyzeLearntIsAssertingImpliedAndLeavesNoMarkSaid : Prop := fnAnalyzeLearntIsAssertingImpliedAndLeavesNoMarkRow.holds Try.pinned (OpenSpec.ofChange fnAnalyzeLearntIsAssertingImpliedAndLeavesNoMarkSpec)

/-- ITS FALSE NEIGHBOUR: 'it returns false'. Refute it at one input. -/
def fnAnalyzeLearntIsAssertingImpliedAndLeavesNoMarkWrong : ChangeSpec := { name := "fnAnalyzeLearntIsAssertingImpliedAndLeavesNoMark", fn := fun _ => fun
  | [d1, d2, d3] => { results := [.lit (.bool false)], args := [d1, d2, d3] }
  | _ => none }
def FnAnalyzeLearntIsAssertingImpliedAndLeavesNoMarkWrongFalsely : Prop := fnAnalyzeLearntIsAssertingImpliedAndLeavesNoMarkRow.holds Try.pinned (OpenSpec.ofChange fnAnalyzeLearntIsAssertingImpliedAndLeavesNoMarkWrong)

/-- 'zzlaws_sat_b1.FnAnalyzeFinalIsTheDecisionsBehindP': WHATEVER THE INPUT: true; the input reads as it did. -/
def fnAnalyzeFinalIsTheDecisionsBehindPSpec : ChangeSpec := { name := "fnAnalyzeFinalIsTheDecisionsBehindP", fn := fun _ => fun
  | [d1, d2, d3, d4] => { results := [.lit (.bool true)], args := [d1, d2, d3, d4] }
  | _ => none }
def fnAnalyzeFinalIsTheDecisionsBehindPRow : OpenClaim := { program := "qxb6600345a", sum := "e25711cc2f3a0ba3d427ca48e45f65bb0ae14c8dc8e70348cc8824b5fb74839a", func := "example.com/flowsure/flowsure/zzlaws_sat_b1.FnAnalyzeFinalIsTheDecisionsBehindP", spec := "fnAnalyzeFinalIsTheDecisionsBehindP", apart := false }
def FnAnalyzeFinalIsTheDecisionsBehindPSaid : Prop := fnAnalyzeFinalIsTheDecisionsBehindPRow.holds Try.pinned (OpenSpec.ofChange fnAnalyzeFinalIsTheDecisionsBehindPSpec)

/-- ITS FALSE NEIGHBOUR: 'it returns false'. Refute it at one input. -/
def fnAnalyzeFinalIsTheDecisionsBehindPWrong : ChangeSpec := { name := "fnAnalyzeFinalIsTheDecisionsBehindP", fn := fun _ => fun
  | [d1, d2, d3, d4] => { results := [.lit (.bool false)], args := [d1, d2, d3, d4] }
  | _ => none }
def FnAnalyzeFinalIsTheDecisionsBehindPWrongFalsely : Prop := fnAnalyzeFinalIsTheDecisionsBehindPRow.holds Try.pinned (OpenSpec.ofChange fnAnalyzeFinalIsTheDecisionsBehindPWrong)

/-- 'zzlaws_sat_b1.FnAnalyzeFinalCoreAloneForcesP': WHATEVER THE INPUT: true; the input reads as it did. -/
def fnAnalyzeFinalCoreAloneForcesPSpec : ChangeSpec := { name := "fnAnalyzeFinalCoreAloneForcesP", fn := fun _ => fun
  | [d1, d2, d3, d4] => { results := [.lit (.bool true)], args := [d1, d2, d3, d4] }
  | _ => none }
def fnAnalyzeFinalCoreAloneForcesPRow : OpenClaim := { program := "qxb6600345a", sum := "e25711cc2f3a0ba3d427ca48e45f65bb0ae14c8dc8e70348cc8824b5fb74839a", func := "example.com/flowsure/flowsure/zzlaws_sat_b1.FnAnalyzeFinalCoreAloneForcesP", spec := "fnAnalyzeFinalCoreAloneForcesP", apart := false }
def FnAnalyzeFinalCoreAloneForcesPSaid : Prop := fnAnalyzeFinalCoreAloneForcesPRow.holds Try.pinned (OpenSpec.ofChange fnAnalyzeFinalCoreAloneForcesPSpec)

/-- ITS FALSE NEIGHBOUR: 'it returns false'. Refute it at one input. -/
def fnAnalyzeFinalCoreAloneForcesPWrong : ChangeSpec := { name := "fnAnalyzeFinalCoreAloneForcesP", fn := fun _ => fun
  | [d1, d2, d3, d4] => { results := [.lit (.bool false)], args := [d1, d2, d3, d4] }
  | _ => none }
def FnAnalyzeFinalCoreAloneForcesPWrongFalsely : Prop := fnAnalyzeFinalCoreAloneForcesPRow.holds Try.pinned (OpenSpec.ofChange fnAnalyzeFinalCoreAloneForcesPWrong)

end Rows
end Go.Proofs.Qxb6600345a
