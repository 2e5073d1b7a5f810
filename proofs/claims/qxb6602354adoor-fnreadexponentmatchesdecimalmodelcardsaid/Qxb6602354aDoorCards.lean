/-
  DERIVED. GIVEN WITH THE SEED: THE CARDS: each row of Qxb6602354aDoorRows.lean that lists a variable, with what it lists TIED to the program's text (the seventh form; the later family's looks); each row that meets fmt, with fmt's text TOLD by the authors' own Lean function (tested against real Go, not proved from fmt's source: count such statements apart). THE CARD IS WHAT COUNTS. Prove the row's statement (the work); the ties are given (Qxb6602354aDoorTie.lean); close each card by the builder's one call (the guide's Derived/Test/ToyasCard.lean, 'card_holds'). Laid BY PROGRAM, IN A SANDBOX (cutbox-door.mjs). By AI agents, Wed Nov 11 2026. No macro, syntax, notation, axiom, sorry.
-/
import Derived.Test.Qxb6602354aDoorRows
import GoSem.ClaimSeven
namespace Go.Proofs.Qxb6602354aDoor
namespace Rows

/-- THE TIED CARD OF 'zzlaws_internal_jsonrpc_b1.FnReadExponentMatchesDecimalModel'. -/
def fnReadExponentMatchesDecimalModelCard : Claim7 := { stood := { row := fnReadExponentMatchesDecimalModelRow, standIns := [], harness := (true, "9a1dd66242d64222503ee9c9c8d98b5a3df820b9bcbd5afe2894d8ef596222a9"), looks := true }, kinds := [], alts := [], laidByText := true, laidKinds := [.data, .data, .data, .called, .called], laidTests := true, laidLooks := .later }
def FnReadExponentMatchesDecimalModelCardSaid : Prop := Claim7.holds Tryd.pinned (.plain (OpenSpec.ofChange fnReadExponentMatchesDecimalModelSpec)) fnReadExponentMatchesDecimalModelCard

/-- THE TIED CARD OF 'zzlaws_internal_jsonrpc_b1.FnReadExponentInvertsDecimalFormatting'. -/
def fnReadExponentInvertsDecimalFormattingCard : Claim7 := { stood := { row := fnReadExponentInvertsDecimalFormattingRow, standIns := [], harness := (true, "9a1dd66242d64222503ee9c9c8d98b5a3df820b9bcbd5afe2894d8ef596222a9"), looks := true }, kinds := [], alts := [], laidByText := true, laidKinds := [.data, .data, .data, .called, .called], laidTests := true, laidLooks := .later }
def FnReadExponentInvertsDecimalFormattingCardSaid : Prop := Claim7.holds Tryd.pinned (.plain (OpenSpec.ofChange fnReadExponentInvertsDecimalFormattingSpec)) fnReadExponentInvertsDecimalFormattingCard

/-- THE TIED CARD OF 'zzlaws_internal_jsonrpc_b1.FnReadExponentIgnoresLeadingZeros'. -/
def fnReadExponentIgnoresLeadingZerosCard : Claim7 := { stood := { row := fnReadExponentIgnoresLeadingZerosRow, standIns := [], harness := (true, "9a1dd66242d64222503ee9c9c8d98b5a3df820b9bcbd5afe2894d8ef596222a9"), looks := true }, kinds := [], alts := [], laidByText := true, laidKinds := [.data, .data, .data, .called, .called], laidTests := true, laidLooks := .later }
def FnReadExponentIgnoresLeadingZerosCardSaid : Prop := Claim7.holds Tryd.pinned (.plain (OpenSpec.ofChange fnReadExponentIgnoresLeadingZerosSpec)) fnReadExponentIgnoresLeadingZerosCard
end Rows
end Go.Proofs.Qxb6602354aDoor
