/-
  DERIVED. GIVEN WITH THE SEED: THE CARDS: each row of Qxb6000073aDoorRows.lean that lists a variable, with what it lists TIED to the program's text (the seventh form; the later family's looks); each row that meets fmt, with fmt's text TOLD by the authors' own Lean function (tested against real Go, not proved from fmt's source: count such statements apart). THE CARD IS WHAT COUNTS. Prove the row's statement (the work); the ties are given (Qxb6000073aDoorTie.lean); close each card by the builder's one call (the guide's Derived/Test/ToyasCard.lean, 'card_holds'). Laid BY PROGRAM, IN A SANDBOX (cutbox-door.mjs). By AI agents, Wed Nov 11 2026. No macro, syntax, notation, axiom, sorry.
-/
import Derived.Test.Qxb6000073aDoorRows
import GoSem.ClaimSeven
namespace Go.Proofs.Qxb6000073aDoor
namespace Rows

/-- THE TIED CARD OF 'zzlaws_internal_config_b1.FnWindowStringDecimalOrDefault'. -/
def fnWindowStringDecimalOrDefaultCard : Claim7 := { stood := { row := fnWindowStringDecimalOrDefaultRow, standIns := [], harness := (true, "432052371afc3305bc35ee4708606db819c4edcd41cd8f4136798b04ad6b6bd4"), looks := true }, kinds := [], alts := [], laidByText := true, laidKinds := [.data, .data, .data], laidTests := true, laidLooks := .later }
def FnWindowStringDecimalOrDefaultCardSaid : Prop := Claim7.holds Tryd.pinned (.plain (OpenSpec.ofChange fnWindowStringDecimalOrDefaultSpec)) fnWindowStringDecimalOrDefaultCard

/-- THE TIED CARD OF 'zzlaws_internal_config_b1.FnWindowStringRoundTripsThroughSetText'. -/
def fnWindowStringRoundTripsThroughSetTextCard : Claim7 := { stood := { row := fnWindowStringRoundTripsThroughSetTextRow, standIns := [], harness := (true, "432052371afc3305bc35ee4708606db819c4edcd41cd8f4136798b04ad6b6bd4"), looks := true }, kinds := [], alts := [], laidByText := true, laidKinds := [.data, .data, .data, .sentinel, .sentinel], laidTests := true, laidLooks := .later }
def FnWindowStringRoundTripsThroughSetTextCardSaid : Prop := Claim7.holds Tryd.pinned (.plain (OpenSpec.ofChange fnWindowStringRoundTripsThroughSetTextSpec)) fnWindowStringRoundTripsThroughSetTextCard

/-- THE TIED CARD OF 'zzlaws_internal_config_b1.FnWholeSetTextMatchesDecimalModel'. -/
def fnWholeSetTextMatchesDecimalModelCard : Claim7 := { stood := { row := fnWholeSetTextMatchesDecimalModelRow, standIns := [], harness := (true, "432052371afc3305bc35ee4708606db819c4edcd41cd8f4136798b04ad6b6bd4"), looks := true }, kinds := [], alts := [], laidByText := true, laidKinds := [.data, .data, .data, .sentinel, .sentinel], laidTests := true, laidLooks := .later }
def FnWholeSetTextMatchesDecimalModelCardSaid : Prop := Claim7.holds Tryd.pinned (.plain (OpenSpec.ofChange fnWholeSetTextMatchesDecimalModelSpec)) fnWholeSetTextMatchesDecimalModelCard

/-- THE TIED CARD OF 'zzlaws_internal_config_b1.FnWholeSetTextMonotoneInMax'. -/
def fnWholeSetTextMonotoneInMaxCard : Claim7 := { stood := { row := fnWholeSetTextMonotoneInMaxRow, standIns := [], harness := (true, "432052371afc3305bc35ee4708606db819c4edcd41cd8f4136798b04ad6b6bd4"), looks := true }, kinds := [], alts := [], laidByText := true, laidKinds := [.data, .data, .data, .sentinel, .sentinel], laidTests := true, laidLooks := .later }
def FnWholeSetTextMonotoneInMaxCardSaid : Prop := Claim7.holds Tryd.pinned (.plain (OpenSpec.ofChange fnWholeSetTextMonotoneInMaxSpec)) fnWholeSetTextMonotoneInMaxCard
end Rows
end Go.Proofs.Qxb6000073aDoor
