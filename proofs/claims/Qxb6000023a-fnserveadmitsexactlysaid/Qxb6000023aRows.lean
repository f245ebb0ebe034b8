/-
  No cell of these rows narrows 'for every input' (looked for: loops, veiled, ifaces, maps, wideKeys, modest, calm, conditions, laid).
  DERIVED. THE GIVEN ROWS OF THIS SEAT. 3 by the template 'for every input the law returns true; each argument reads behind the call as it read before'; 0 by the template 'total and deterministic' (their statements: Qxb6000023aTotals.lean).
  GIVEN WITH THE SEED: the statements are not yours to turn. If you find one false, say at which input.
  Laid BY PROGRAM, IN A SANDBOX (cutbox-rows.mjs): the forced cells as the released guide's own fill.sh prints them over the translation f724b99887d3a1da… (all of the seat's roots in one cut). By AI agents, Wed Nov 11 2026. No macro, syntax, notation, axiom, sorry.
-/
import Derived.Test.Qxb6000023aChecked
import GoSem.Claim
import GoSem.ClaimJoined
import GoSem.ClaimMapViews
import Derived.JoinedTies
import Derived.KernelRfl
namespace Go.Proofs.Qxb6000023a
/- THE CELL 'sum', in the pinned program and in every row, IS THE sha256 OF THE DUMP (.gsa) THAT Qxb6000023aProg.lean LOADS. Nothing in Lean hashes anything: it is a label: what it is worth is what the hold of that sum in a sandbox is worth. -/
noncomputable def Try.pinned : Pinned := { name := "qxb6000023a", sum := "f724b99887d3a1da2a29e7cb133d52e70a8ee1ebf7b2fb30791c362dc2bbca2f", checked := Try.checked }
namespace Rows
def none {H : Type} : Left H := { results := [], args := [] }

/-- 'zzlaws_root_b1.FnKeysAdmitsExactly': WHATEVER THE INPUT: true; the input reads as it did. -/
def fnKeysAdmitsExactlySpec : ChangeSpec := { name := "fnKeysAdmitsExactly", fn := fun _ => fun
  | [d1, d2, d3, d4, d5, d6] => { results := [.lit (.bool true)], args := [d1, d2, d3, d4, d5, d6] }
  | _ => none }
def fnKeysAdmitsExactlyRow : OpenClaim := { program := "qxb6000023a", sum := "f724b99887d3a1da2a29e7cb133d52e70a8ee1ebf7b2fb30791c362dc2bbca2f", func := "example.com/leafwise/leafwise/zzlaws_root_b1.FnKeysAdmitsExactly", spec := "fnKeysAdmitsExactly", apart := false }
def FnKeysAdmitsExactlySaid : Prop := fnKeysAdmitsExactlyRow.holds Try.pinned (OpenSpec.ofChange fnKeysAdmitsExactlySpec)

/-- ITS FALSE NEIGHBOUR: 'it returns false'. Refute it at one input. -/
def fnKeysAdmitsExactlyWrong : ChangeSpec := { name := "fnKeysAdmitsExactly", fn := fun _ => fun
  | [d1, d2, d3, d4, d5, d6] => { results := [.lit (.bool false)], args := [d1, d2, d3, d4, d5, d6] }
  | _ => none }
def FnKeysAdmitsExactlyWrongFalsely : Prop := fnKeysAdmitsExactlyRow.holds Try.pinned (OpenSpec.ofChange fnKeysAdmitsExactlyWrong)

/-- 'zzlaws_root_b1.FnKeysPrefixShift': WHATEVER THE INPUT: true; the input reads as it did. -/
def fnKeysPrefixShiftSpec : ChangeSpec := { name := "fnKeysPrefixShift", fn := fun _ => fun
  | [d1, d2, d3, d4, d5, d6] => { results := [.lit (.bool true)], args := [d1, d2, d3, d4, d5, d6] }
  | _ => none }
def fnKeysPrefixShiftRow : OpenClaim := { program := "qxb6000023a", sum := "f724b99887d3a1da2a29e7cb133d52e70a8ee1ebf7b2fb30791c362dc2bbca2f", func := "example.com/leafwise/leafwise/zzlaws_root_b1.FnKeysPrefixShift", spec := "fnKeysPrefixShift", apart := false }
def FnKeysPrefixShiftSaid : Prop := fnKeysPrefixShiftRow.holds Try.pinned (OpenSpec.ofChange fnKeysPrefixShiftSpec)

/-- ITS FALSE NEIGHBOUR: 'it returns false'. Refute it at one input. -/
def fnKeysPrefixShiftWrong : ChangeSpec := { name := "fnKeysPrefixShift", fn := fun _ => fun
  | [d1, d2, d3, d4, d5, d6] => { results := [.lit (.bool false)], args := [d1, d2, d3, d4, d5, d6] }
  | _ => none }
def FnKeysPrefixShiftWrongFalsely : Prop := fnKeysPrefixShiftRow.holds Try.pinned (OpenSpec.ofChange fnKeysPrefixShiftWrong)

/-- 'zzlaws_root_b1.FnServeAdmitsExactly': WHATEVER THE INPUT: true; the input reads as it did. -/
def fnServeAdmitsExactlySpec : ChangeSpec := { name := "fnServeAdmitsExactly", fn := fun _ => fun
  | [d1, d2, d3, d4, d5, d6, d7, d8] => { results := [.lit (.bool true)], args := [d1, d2, d3, d4, d5, d6, d7, d8] }
  | _ => none }
def fnServeAdmitsExactlyRow : OpenClaim := { program := "qxb6000023a", sum := "f724b99887d3a1da2a29e7cb133d52e70a8ee1ebf7b2fb30791c362dc2bbca2f", func := "example.com/leafwise/leafwise/zzlaws_root_b1.FnServeAdmitsExactly", spec := "fnServeAdmitsExactly", apart := false }
def FnServeAdmitsExactlySaid : Prop := fnServeAdmitsExactlyRow.holds Try.pinned (OpenSpec.ofChange fnServeAdmitsExactlySpec)

/-- ITS FALSE NEIGHBOUR: 'it returns false'. Refute it at one input. -/
def fnServeAdmitsExactlyWrong : ChangeSpec := { name := "fnServeAdmitsExactly", fn := fun _ => fun
  | [d1, d2, d3, d4, d5, d6, d7, d8] => { results := [.lit (.bool false)], args := [d1, d2, d3, d4, d5, d6, d7, d8] }
  | _ => none }
def FnServeAdmitsExactlyWrongFalsely : Prop := fnServeAdmitsExactlyRow.holds Try.pinned (OpenSpec.ofChange fnServeAdmitsExactlyWrong)

end Rows
end Go.Proofs.Qxb6000023a
