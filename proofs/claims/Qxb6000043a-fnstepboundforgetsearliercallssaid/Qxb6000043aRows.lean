/-
  No cell of these rows narrows 'for every input' (looked for: loops, veiled, ifaces, maps, wideKeys, modest, calm, conditions, laid).
  DERIVED. THE GIVEN ROWS OF THIS SEAT. 7 by the template 'for every input the law returns true; each argument reads behind the call as it read before'; 0 by the template 'total and deterministic' (their statements: Qxb6000043aTotals.lean).
  GIVEN WITH THE SEED: the statements are not yours to turn. If you find one false, say at which input.
  Laid BY PROGRAM, IN A SANDBOX (cutbox-rows.mjs): the forced cells as the released guide's own fill.sh prints them over the translation f59ad2eb0dfb7959… (all of the seat's roots in one cut). By AI agents, Wed Nov 11 2026. No macro, syntax, notation, axiom, sorry.
-/
import Derived.Test.Qxb6000043aChecked
import GoSem.Claim
import GoSem.ClaimJoined
import GoSem.ClaimMapViews
import Derived.JoinedTies
import Derived.KernelRfl
namespace Go.Proofs.Qxb6000043a
/- THE CELL 'sum', in the pinned program and in every row, IS THE sha256 OF THE DUMP (.gsa) THAT Qxb6000043aProg.lean LOADS. Nothing in Lean hashes anything: it is a label: what it is worth is what the hold of that sum in a sandbox is worth. -/
noncomputable def Try.pinned : Pinned := { name := "qxb6000043a", sum := "f59ad2eb0dfb79598d351b1a1394863eab2bca2d5eb77f2612cf241c068388be", checked := Try.checked }
namespace Rows
def none {H : Type} : Left H := { results := [], args := [] }

/-- 'zzlaws_internal_lock_b1.FnCliqueStepsIsClosedForm': WHATEVER THE INPUT: true; the input reads as it did. -/
def fnCliqueStepsIsClosedFormSpec : ChangeSpec := { name := "fnCliqueStepsIsClosedForm", fn := fun _ => fun
  | [d1, d2, d3] => { results := [.lit (.bool true)], args := [d1, d2, d3] }
  | _ => none }
def fnCliqueStepsIsClosedFormRow : OpenClaim := { program := "qxb6000043a", sum := "f59ad2eb0dfb79598d351b1a1394863eab2bca2d5eb77f2612cf241c068388be", func := "example.com/waitgraph/waitgraph/zzlaws_internal_lock_b1.FnCliqueStepsIsClosedForm", spec := "fnCliqueStepsIsClosedForm", apart := false }
def FnCliqueStepsIsClosedFormSaid : Prop := fnCliqueStepsIsClosedFormRow.holds Try.pinned (OpenSpec.ofChange fnCliqueStepsIsClosedFormSpec)

/-- ITS FALSE NEIGHBOUR: 'it returns false'. Refute it at one input. -/
def fnCliqueStepsIsClosedFormWrong : ChangeSpec := { name := "fnCliqueStepsIsClosedForm", fn := fun _ => fun
  | [d1, d2, d3] => { results := [.lit (.bool false)], args := [d1, d2, d3] }
  | _ => none }
def FnCliqueStepsIsClosedFormWrongFalsely : Prop := fnCliqueStepsIsClosedFormRow.holds Try.pinned (OpenSpec.ofChange fnCliqueStepsIsClosedFormWrong)

/-- 'zzlaws_internal_lock_b1.FnCliqueStepsSaturatesConsistently': WHATEVER THE INPUT: true; the input reads as it did. -/
def fnCliqueStepsSaturatesConsistentlySpec : ChangeSpec := { name := "fnCliqueStepsSaturatesConsistently", fn := fun _ => fun
  | [d1, d2, d3, d4] => { results := [.lit (.bool true)], args := [d1, d2, d3, d4] }
  | _ => none }
def fnCliqueStepsSaturatesConsistentlyRow : OpenClaim := { program := "qxb6000043a", sum := "f59ad2eb0dfb79598d351b1a1394863eab2bca2d5eb77f2612cf241c068388be", func := "example.com/waitgraph/waitgraph/zzlaws_internal_lock_b1.FnCliqueStepsSaturatesConsistently", spec := "fnCliqueStepsSaturatesConsistently", apart := false }
def FnCliqueStepsSaturatesConsistentlySaid : Prop := fnCliqueStepsSaturatesConsistentlyRow.holds Try.pinned (OpenSpec.ofChange fnCliqueStepsSaturatesConsistentlySpec)

/-- ITS FALSE NEIGHBOUR: 'it returns false'. Refute it at one input. -/
def fnCliqueStepsSaturatesConsistentlyWrong : ChangeSpec := { name := "fnCliqueStepsSaturatesConsistently", fn := fun _ => fun
  | [d1, d2, d3, d4] => { results := [.lit (.bool false)], args := [d1, d2, d3, d4] }
  | _ => none }
def FnCliqueStepsSaturatesConsistentlyWrongFalsely : Prop := fnCliqueStepsSaturatesConsistentlyRow.holds Try.pinned (OpenSpec.ofChange fnCliqueStepsSaturatesConsistentlyWrong)

/-- 'zzlaws_internal_lock_b1.FnSearchIsRecursivePostorder': WHATEVER THE INPUT: true; the input reads as it did. -/
def fnSearchIsRecursivePostorderSpec : ChangeSpec := { name := "fnSearchIsRecursivePostorder", fn := fun _ => fun
  | [d1, d2, d3] => { results := [.lit (.bool true)], args := [d1, d2, d3] }
  | _ => none }
def fnSearchIsRecursivePostorderRow : OpenClaim := { program := "qxb6000043a", sum := "f59ad2eb0dfb79598d351b1a1394863eab2bca2d5eb77f2612cf241c068388be", func := "example.com/waitgraph/waitgraph/zzlaws_internal_lock_b1.FnSearchIsRecursivePostorder", spec := "fnSearchIsRecursivePostorder", recurses := true, apart := false }
def FnSearchIsRecursivePostorderSaid : Prop := fnSearchIsRecursivePostorderRow.holds Try.pinned (OpenSpec.ofChange fnSearchIsRecursivePostorderSpec)

/-- ITS FALSE NEIGHBOUR: 'it returns false'. Refute it at one input. -/
def fnSearchIsRecursivePostorderWrong : ChangeSpec := { name := "fnSearchIsRecursivePostorder", fn := fun _ => fun
  | [d1, d2, d3] => { results := [.lit (.bool false)], args := [d1, d2, d3] }
  | _ => none }
def FnSearchIsRecursivePostorderWrongFalsely : Prop := fnSearchIsRecursivePostorderRow.holds Try.pinned (OpenSpec.ofChange fnSearchIsRecursivePostorderWrong)

/-- 'zzlaws_internal_lock_b1.FnSearchLeavesJustTheReachable': WHATEVER THE INPUT: true; the input reads as it did. -/
def fnSearchLeavesJustTheReachableSpec : ChangeSpec := { name := "fnSearchLeavesJustTheReachable", fn := fun _ => fun
  | [d1, d2, d3] => { results := [.lit (.bool true)], args := [d1, d2, d3] }
  | _ => none }
def fnSearchLeavesJustTheReachableRow : OpenClaim := { program := "qxb6000043a", sum := "f59ad2eb0dfb79598d351b1a1394863eab2bca2d5eb77f2612cf241c068388be", func := "example.com/waitgraph/waitgraph/zzlaws_internal_lock_b1.FnSearchLeavesJustTheReachable", spec := "fnSearchLeavesJustTheReachable", apart := false }
def FnSearchLeavesJustTheReachableSaid : Prop := fnSearchLeavesJustTheReachableRow.holds Try.pinned (OpenSpec.ofChange fnSearchLeavesJustTheReachableSpec)

/-- ITS FALSE NEIGHBOUR: 'it returns false'. Refute it at one input. -/
def fnSearchLeavesJustTheReachableWrong : ChangeSpec := { name := "fnSearchLeavesJustTheReachable", fn := fun _ => fun
  | [d1, d2, d3] => { results := [.lit (.bool false)], args := [d1, d2, d3] }
  | _ => none }
def FnSearchLeavesJustTheReachableWrongFalsely : Prop := fnSearchLeavesJustTheReachableRow.holds Try.pinned (OpenSpec.ofChange fnSearchLeavesJustTheReachableWrong)

/-- 'zzlaws_internal_lock_b1.FnCycleStepsCountsAcyclicPaths': WHATEVER THE INPUT: true; the input reads as it did. -/
def fnCycleStepsCountsAcyclicPathsSpec : ChangeSpec := { name := "fnCycleStepsCountsAcyclicPaths", fn := fun _ => fun
  | [d1, d2, d3, d4] => { results := [.lit (.bool true)], args := [d1, d2, d3, d4] }
  | _ => none }
def fnCycleStepsCountsAcyclicPathsRow : OpenClaim := { program := "qxb6000043a", sum := "f59ad2eb0dfb79598d351b1a1394863eab2bca2d5eb77f2612cf241c068388be", func := "example.com/waitgraph/waitgraph/zzlaws_internal_lock_b1.FnCycleStepsCountsAcyclicPaths", spec := "fnCycleStepsCountsAcyclicPaths", recurses := true, apart := false }
def FnCycleStepsCountsAcyclicPathsSaid : Prop := fnCycleStepsCountsAcyclicPathsRow.holds Try.pinned (OpenSpec.ofChange fnCycleStepsCountsAcyclicPathsSpec)

/-- ITS FALSE NEIGHBOUR: 'it returns false'. Refute it at one input. -/
def fnCycleStepsCountsAcyclicPathsWrong : ChangeSpec := { name := "fnCycleStepsCountsAcyclicPaths", fn := fun _ => fun
  | [d1, d2, d3, d4] => { results := [.lit (.bool false)], args := [d1, d2, d3, d4] }
  | _ => none }
def FnCycleStepsCountsAcyclicPathsWrongFalsely : Prop := fnCycleStepsCountsAcyclicPathsRow.holds Try.pinned (OpenSpec.ofChange fnCycleStepsCountsAcyclicPathsWrong)

/-- 'zzlaws_internal_lock_b1.FnCycleStepsWithinCliqueSteps': WHATEVER THE INPUT: true; the input reads as it did. -/
def fnCycleStepsWithinCliqueStepsSpec : ChangeSpec := { name := "fnCycleStepsWithinCliqueSteps", fn := fun _ => fun
  | [d1, d2, d3, d4, d5] => { results := [.lit (.bool true)], args := [d1, d2, d3, d4, d5] }
  | _ => none }
def fnCycleStepsWithinCliqueStepsRow : OpenClaim := { program := "qxb6000043a", sum := "f59ad2eb0dfb79598d351b1a1394863eab2bca2d5eb77f2612cf241c068388be", func := "example.com/waitgraph/waitgraph/zzlaws_internal_lock_b1.FnCycleStepsWithinCliqueSteps", spec := "fnCycleStepsWithinCliqueSteps", apart := false }
def FnCycleStepsWithinCliqueStepsSaid : Prop := fnCycleStepsWithinCliqueStepsRow.holds Try.pinned (OpenSpec.ofChange fnCycleStepsWithinCliqueStepsSpec)

/-- ITS FALSE NEIGHBOUR: 'it returns false'. Refute it at one input. -/
def fnCycleStepsWithinCliqueStepsWrong : ChangeSpec := { name := "fnCycleStepsWithinCliqueSteps", fn := fun _ => fun
  | [d1, d2, d3, d4, d5] => { results := [.lit (.bool false)], args := [d1, d2, d3, d4, d5] }
  | _ => none }
def FnCycleStepsWithinCliqueStepsWrongFalsely : Prop := fnCycleStepsWithinCliqueStepsRow.holds Try.pinned (OpenSpec.ofChange fnCycleStepsWithinCliqueStepsWrong)

/-- 'zzlaws_internal_lock_b1.FnStepBoundForgetsEarlierCalls': WHATEVER THE INPUT: true; the input reads as it did. -/
def fnStepBoundForgetsEarlierCallsSpec : ChangeSpec := { name := "fnStepBoundForgetsEarlierCalls", fn := fun _ => fun
  | [d1, d2, d3] => { results := [.lit (.bool true)], args := [d1, d2, d3] }
  | _ => none }
def fnStepBoundForgetsEarlierCallsRow : OpenClaim := { program := "qxb6000043a", sum := "f59ad2eb0dfb79598d351b1a1394863eab2bca2d5eb77f2612cf241c068388be", func := "example.com/waitgraph/waitgraph/zzlaws_internal_lock_b1.FnStepBoundForgetsEarlierCalls", spec := "fnStepBoundForgetsEarlierCalls", apart := false }
def FnStepBoundForgetsEarlierCallsSaid : Prop := fnStepBoundForgetsEarlierCallsRow.holds Try.pinned (OpenSpec.ofChange fnStepBoundForgetsEarlierCallsSpec)

/-- ITS FALSE NEIGHBOUR: 'it returns false'. Refute it at one input. -/
def fnStepBoundForgetsEarlierCallsWrong : ChangeSpec := { name := "fnStepBoundForgetsEarlierCalls", fn := fun _ => fun
  | [d1, d2, d3] => { results := [.lit (.bool false)], args := [d1, d2, d3] }
  | _ => none }
def FnStepBoundForgetsEarlierCallsWrongFalsely : Prop := fnStepBoundForgetsEarlierCallsRow.holds Try.pinned (OpenSpec.ofChange fnStepBoundForgetsEarlierCallsWrong)

end Rows
end Go.Proofs.Qxb6000043a
