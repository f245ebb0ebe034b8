/-
  No cell of these rows narrows 'for every input' (looked for: loops, veiled, ifaces, maps, wideKeys, modest, calm, conditions, laid).
  DERIVED. THE GIVEN ROWS OF THIS SEAT. 5 by the template 'for every input the law returns true; each argument reads behind the call as it read before'; 0 by the template 'total and deterministic' (their statements: Qxb6000012aTotals.lean).
  GIVEN WITH THE SEED: the statements are not yours to turn. If you find one false, say at which input.
  Laid BY PROGRAM, IN A SANDBOX (cutbox-rows.mjs): the forced cells as the released guide's own fill.sh prints them over the translation 5f30f6798fa3579f… (all of the seat's roots in one cut). By AI agents, Wed Nov 11 2026. No macro, syntax, notation, axiom, sorry.
-/
import Derived.Test.Qxb6000012aChecked
import GoSem.Claim
import GoSem.ClaimJoined
import GoSem.ClaimMapViews
import Derived.JoinedTies
import Derived.KernelRfl
namespace Go.Proofs.Qxb6000012a
/- THE CELL 'sum', in the pinned program and in every row, IS THE sha256 OF THE DUMP (.gsa) THAT Qxb6000012aProg.lean LOADS. Nothing in Lean hashes anything: it is a label: what it is worth is what the hold of that sum in a sandbox is worth. -/
noncomputable def Try.pinned : Pinned := { name := "qxb6000012a", sum := "5f30f6798fa3579f891b67fec75e08f08d52862d8089c8332881721de838f5e3", checked := Try.checked }
namespace Rows
def none {H : Type} : Left H := { results := [], args := [] }

/-- 'zzlaws_root_b1.FnLabelAllowsOrder': WHATEVER THE INPUT: true; the input reads as it did. -/
def fnLabelAllowsOrderSpec : ChangeSpec := { name := "fnLabelAllowsOrder", fn := fun _ => fun
  | [d1, d2, d3, d4, d5, d6] => { results := [.lit (.bool true)], args := [d1, d2, d3, d4, d5, d6] }
  | _ => none }
def fnLabelAllowsOrderRow : OpenClaim := { program := "qxb6000012a", sum := "5f30f6798fa3579f891b67fec75e08f08d52862d8089c8332881721de838f5e3", func := "example.com/acecheck/acecheck/zzlaws_root_b1.FnLabelAllowsOrder", spec := "fnLabelAllowsOrder", apart := false }
def FnLabelAllowsOrderSaid : Prop := fnLabelAllowsOrderRow.holds Try.pinned (OpenSpec.ofChange fnLabelAllowsOrderSpec)

/-- ITS FALSE NEIGHBOUR: 'it returns false'. Refute it at one input. -/
def fnLabelAllowsOrderWrong : ChangeSpec := { name := "fnLabelAllowsOrder", fn := fun _ => fun
  | [d1, d2, d3, d4, d5, d6] => { results := [.lit (.bool false)], args := [d1, d2, d3, d4, d5, d6] }
  | _ => none }
def FnLabelAllowsOrderWrongFalsely : Prop := fnLabelAllowsOrderRow.holds Try.pinned (OpenSpec.ofChange fnLabelAllowsOrderWrong)

/-- 'zzlaws_root_b1.FnTruthOfIgnores': WHATEVER THE INPUT: true; the input reads as it did. -/
def fnTruthOfIgnoresSpec : ChangeSpec := { name := "fnTruthOfIgnores", fn := fun _ => fun
  | [d1, d2, d3, d4, d5, d6, d7, d8, d9] => { results := [.lit (.bool true)], args := [d1, d2, d3, d4, d5, d6, d7, d8, d9] }
  | _ => none }
def fnTruthOfIgnoresRow : OpenClaim := { program := "qxb6000012a", sum := "5f30f6798fa3579f891b67fec75e08f08d52862d8089c8332881721de838f5e3", func := "example.com/acecheck/acecheck/zzlaws_root_b1.FnTruthOfIgnores", spec := "fnTruthOfIgnores", apart := false }
def FnTruthOfIgnoresSaid : Prop := fnTruthOfIgnoresRow.holds Try.pinned (OpenSpec.ofChange fnTruthOfIgnoresSpec)

/-- ITS FALSE NEIGHBOUR: 'it returns false'. Refute it at one input. -/
def fnTruthOfIgnoresWrong : ChangeSpec := { name := "fnTruthOfIgnores", fn := fun _ => fun
  | [d1, d2, d3, d4, d5, d6, d7, d8, d9] => { results := [.lit (.bool false)], args := [d1, d2, d3, d4, d5, d6, d7, d8, d9] }
  | _ => none }
def FnTruthOfIgnoresWrongFalsely : Prop := fnTruthOfIgnoresRow.holds Try.pinned (OpenSpec.ofChange fnTruthOfIgnoresWrong)

/-- 'zzlaws_root_b1.FnAllowModel': WHATEVER THE INPUT: true; the input reads as it did. -/
def fnAllowModelSpec : ChangeSpec := { name := "fnAllowModel", fn := fun _ => fun
  | [d1, d2, d3, d4, d5] => { results := [.lit (.bool true)], args := [d1, d2, d3, d4, d5] }
  | _ => none }
def fnAllowModelRow : OpenClaim := { program := "qxb6000012a", sum := "5f30f6798fa3579f891b67fec75e08f08d52862d8089c8332881721de838f5e3", func := "example.com/acecheck/acecheck/zzlaws_root_b1.FnAllowModel", spec := "fnAllowModel", apart := false }
def FnAllowModelSaid : Prop := fnAllowModelRow.holds Try.pinned (OpenSpec.ofChange fnAllowModelSpec)

/-- ITS FALSE NEIGHBOUR: 'it returns false'. Refute it at one input. -/
def fnAllowModelWrong : ChangeSpec := { name := "fnAllowModel", fn := fun _ => fun
  | [d1, d2, d3, d4, d5] => { results := [.lit (.bool false)], args := [d1, d2, d3, d4, d5] }
  | _ => none }
def FnAllowModelWrongFalsely : Prop := fnAllowModelRow.holds Try.pinned (OpenSpec.ofChange fnAllowModelWrong)

/-- 'zzlaws_root_b1.FnAllowKeeps': WHATEVER THE INPUT: true; the input reads as it did. -/
def fnAllowKeepsSpec : ChangeSpec := { name := "fnAllowKeeps", fn := fun _ => fun
  | [d1, d2, d3, d4, d5] => { results := [.lit (.bool true)], args := [d1, d2, d3, d4, d5] }
  | _ => none }
def fnAllowKeepsRow : OpenClaim := { program := "qxb6000012a", sum := "5f30f6798fa3579f891b67fec75e08f08d52862d8089c8332881721de838f5e3", func := "example.com/acecheck/acecheck/zzlaws_root_b1.FnAllowKeeps", spec := "fnAllowKeeps", apart := false }
def FnAllowKeepsSaid : Prop := fnAllowKeepsRow.holds Try.pinned (OpenSpec.ofChange fnAllowKeepsSpec)

/-- ITS FALSE NEIGHBOUR: 'it returns false'. Refute it at one input. -/
def fnAllowKeepsWrong : ChangeSpec := { name := "fnAllowKeeps", fn := fun _ => fun
  | [d1, d2, d3, d4, d5] => { results := [.lit (.bool false)], args := [d1, d2, d3, d4, d5] }
  | _ => none }
def FnAllowKeepsWrongFalsely : Prop := fnAllowKeepsRow.holds Try.pinned (OpenSpec.ofChange fnAllowKeepsWrong)

/-- 'zzlaws_root_b1.FnAllowIdempotent': WHATEVER THE INPUT: true; the input reads as it did. -/
def fnAllowIdempotentSpec : ChangeSpec := { name := "fnAllowIdempotent", fn := fun _ => fun
  | [d1, d2, d3, d4, d5] => { results := [.lit (.bool true)], args := [d1, d2, d3, d4, d5] }
  | _ => none }
def fnAllowIdempotentRow : OpenClaim := { program := "qxb6000012a", sum := "5f30f6798fa3579f891b67fec75e08f08d52862d8089c8332881721de838f5e3", func := "example.com/acecheck/acecheck/zzlaws_root_b1.FnAllowIdempotent", spec := "fnAllowIdempotent", apart := false }
def FnAllowIdempotentSaid : Prop := fnAllowIdempotentRow.holds Try.pinned (OpenSpec.ofChange fnAllowIdempotentSpec)

/-- ITS FALSE NEIGHBOUR: 'it returns false'. Refute it at one input. -/
def fnAllowIdempotentWrong : ChangeSpec := { name := "fnAllowIdempotent", fn := fun _ => fun
  | [d1, d2, d3, d4, d5] => { results := [.lit (.bool false)], args := [d1, d2, d3, d4, d5] }
  | _ => none }
def FnAllowIdempotentWrongFalsely : Prop := fnAllowIdempotentRow.holds Try.pinned (OpenSpec.ofChange fnAllowIdempotentWrong)

end Rows
end Go.Proofs.Qxb6000012a
