/-
  No cell of these rows narrows 'for every input' (looked for: loops, veiled, ifaces, maps, wideKeys, modest, calm, conditions, laid).
  DERIVED. THE GIVEN ROWS OF THIS SEAT. 6 by the template 'for every input the law returns true; each argument reads behind the call as it read before'; 0 by the template 'total and deterministic' (their statements: Qxb6000399aTotals.lean).
  GIVEN WITH THE SEED: the statements are not yours to turn. If you find one false, say at which input.
  Laid BY PROGRAM, IN A SANDBOX (cutbox-rows.mjs): the forced cells as the released guide's own fill.sh prints them over the translation 8534884bc779a7a2… (all of the seat's roots in one cut). By AI agents, Wed Nov 11 2026. No macro, syntax, notation, axiom, sorry.
-/
import Derived.Test.Qxb6000399aChecked
import GoSem.Claim
import GoSem.ClaimJoined
import GoSem.ClaimMapViews
import Derived.JoinedTies
import Derived.KernelRfl
namespace Go.Proofs.Qxb6000399a
/- THE CELL 'sum', in the pinned program and in every row, IS THE sha256 OF THE DUMP (.gsa) THAT Qxb6000399aProg.lean LOADS. Nothing in Lean hashes anything: it is a label: what it is worth is what the hold of that sum in a sandbox is worth. -/
noncomputable def Try.pinned : Pinned := { name := "qxb6000399a", sum := "8534884bc779a7a2e6503b3e811f154f4f9cd7209799bf2fd981c6fafb826559", checked := Try.checked }
namespace Rows
def none {H : Type} : Left H := { results := [], args := [] }

/-- 'zzlaws_decimal_b1.FnAppendRoundTrip': WHATEVER THE INPUT: true; the input reads as it did. -/
def fnAppendRoundTripSpec : ChangeSpec := { name := "fnAppendRoundTrip", fn := fun _ => fun
  | [d1, d2, d3, d4] => { results := [.lit (.bool true)], args := [d1, d2, d3, d4] }
  | _ => none }
def fnAppendRoundTripRow : OpenClaim := { program := "qxb6000399a", sum := "8534884bc779a7a2e6503b3e811f154f4f9cd7209799bf2fd981c6fafb826559", func := "example.com/readpoint/readpoint/zzlaws_decimal_b1.FnAppendRoundTrip", spec := "fnAppendRoundTrip", apart := false }
def FnAppendRoundTripSaid : Prop := fnAppendRoundTripRow.holds Try.pinned (OpenSpec.ofChange fnAppendRoundTripSpec)

/-- ITS FALSE NEIGHBOUR: 'it returns false'. Refute it at one input. -/
def fnAppendRoundTripWrong : ChangeSpec := { name := "fnAppendRoundTrip", fn := fun _ => fun
  | [d1, d2, d3, d4] => { results := [.lit (.bool false)], args := [d1, d2, d3, d4] }
  | _ => none }
def FnAppendRoundTripWrongFalsely : Prop := fnAppendRoundTripRow.holds Try.pinned (OpenSpec.ofChange fnAppendRoundTripWrong)

/-- 'zzlaws_decimal_b1.FnSmallInverse': WHATEVER THE INPUT: true; the input reads as it did. -/
def fnSmallInverseSpec : ChangeSpec := { name := "fnSmallInverse", fn := fun _ => fun
  | [d1, d2, d3, d4, d5] => { results := [.lit (.bool true)], args := [d1, d2, d3, d4, d5] }
  | _ => none }
def fnSmallInverseRow : OpenClaim := { program := "qxb6000399a", sum := "8534884bc779a7a2e6503b3e811f154f4f9cd7209799bf2fd981c6fafb826559", func := "example.com/readpoint/readpoint/zzlaws_decimal_b1.FnSmallInverse", spec := "fnSmallInverse", apart := false }
def FnSmallInverseSaid : Prop := fnSmallInverseRow.holds Try.pinned (OpenSpec.ofChange fnSmallInverseSpec)

/-- ITS FALSE NEIGHBOUR: 'it returns false'. Refute it at one input. -/
def fnSmallInverseWrong : ChangeSpec := { name := "fnSmallInverse", fn := fun _ => fun
  | [d1, d2, d3, d4, d5] => { results := [.lit (.bool false)], args := [d1, d2, d3, d4, d5] }
  | _ => none }
def FnSmallInverseWrongFalsely : Prop := fnSmallInverseRow.holds Try.pinned (OpenSpec.ofChange fnSmallInverseWrong)

/-- 'zzlaws_decimal_b1.FnCmpAgreesWithAlignedModel': WHATEVER THE INPUT: true; the input reads as it did. -/
def fnCmpAgreesWithAlignedModelSpec : ChangeSpec := { name := "fnCmpAgreesWithAlignedModel", fn := fun _ => fun
  | [d1, d2, d3, d4, d5, d6, d7, d8] => { results := [.lit (.bool true)], args := [d1, d2, d3, d4, d5, d6, d7, d8] }
  | _ => none }
def fnCmpAgreesWithAlignedModelRow : OpenClaim := { program := "qxb6000399a", sum := "8534884bc779a7a2e6503b3e811f154f4f9cd7209799bf2fd981c6fafb826559", func := "example.com/readpoint/readpoint/zzlaws_decimal_b1.FnCmpAgreesWithAlignedModel", spec := "fnCmpAgreesWithAlignedModel", inPlace := ["internal/bytealg.abigen_runtime_cmpstring"], apart := false }
def FnCmpAgreesWithAlignedModelSaid : Prop := fnCmpAgreesWithAlignedModelRow.holds Try.pinned (OpenSpec.ofChange fnCmpAgreesWithAlignedModelSpec)

/-- ITS FALSE NEIGHBOUR: 'it returns false'. Refute it at one input. -/
def fnCmpAgreesWithAlignedModelWrong : ChangeSpec := { name := "fnCmpAgreesWithAlignedModel", fn := fun _ => fun
  | [d1, d2, d3, d4, d5, d6, d7, d8] => { results := [.lit (.bool false)], args := [d1, d2, d3, d4, d5, d6, d7, d8] }
  | _ => none }
def FnCmpAgreesWithAlignedModelWrongFalsely : Prop := fnCmpAgreesWithAlignedModelRow.holds Try.pinned (OpenSpec.ofChange fnCmpAgreesWithAlignedModelWrong)

/-- 'zzlaws_decimal_b1.FnCmpAntisymmetricAndScaleBlind': WHATEVER THE INPUT: true; the input reads as it did. -/
def fnCmpAntisymmetricAndScaleBlindSpec : ChangeSpec := { name := "fnCmpAntisymmetricAndScaleBlind", fn := fun _ => fun
  | [d1, d2, d3, d4, d5, d6, d7, d8, d9] => { results := [.lit (.bool true)], args := [d1, d2, d3, d4, d5, d6, d7, d8, d9] }
  | _ => none }
def fnCmpAntisymmetricAndScaleBlindRow : OpenClaim := { program := "qxb6000399a", sum := "8534884bc779a7a2e6503b3e811f154f4f9cd7209799bf2fd981c6fafb826559", func := "example.com/readpoint/readpoint/zzlaws_decimal_b1.FnCmpAntisymmetricAndScaleBlind", spec := "fnCmpAntisymmetricAndScaleBlind", inPlace := ["internal/bytealg.abigen_runtime_cmpstring"], apart := false }
def FnCmpAntisymmetricAndScaleBlindSaid : Prop := fnCmpAntisymmetricAndScaleBlindRow.holds Try.pinned (OpenSpec.ofChange fnCmpAntisymmetricAndScaleBlindSpec)

/-- ITS FALSE NEIGHBOUR: 'it returns false'. Refute it at one input. -/
def fnCmpAntisymmetricAndScaleBlindWrong : ChangeSpec := { name := "fnCmpAntisymmetricAndScaleBlind", fn := fun _ => fun
  | [d1, d2, d3, d4, d5, d6, d7, d8, d9] => { results := [.lit (.bool false)], args := [d1, d2, d3, d4, d5, d6, d7, d8, d9] }
  | _ => none }
def FnCmpAntisymmetricAndScaleBlindWrongFalsely : Prop := fnCmpAntisymmetricAndScaleBlindRow.holds Try.pinned (OpenSpec.ofChange fnCmpAntisymmetricAndScaleBlindWrong)

/-- 'zzlaws_decimal_b1.FnCmpTransitive': WHATEVER THE INPUT: true; the input reads as it did. -/
def fnCmpTransitiveSpec : ChangeSpec := { name := "fnCmpTransitive", fn := fun _ => fun
  | [d1, d2, d3, d4, d5, d6, d7, d8, d9, d10, d11, d12] => { results := [.lit (.bool true)], args := [d1, d2, d3, d4, d5, d6, d7, d8, d9, d10, d11, d12] }
  | _ => none }
def fnCmpTransitiveRow : OpenClaim := { program := "qxb6000399a", sum := "8534884bc779a7a2e6503b3e811f154f4f9cd7209799bf2fd981c6fafb826559", func := "example.com/readpoint/readpoint/zzlaws_decimal_b1.FnCmpTransitive", spec := "fnCmpTransitive", inPlace := ["internal/bytealg.abigen_runtime_cmpstring"], apart := false }
def FnCmpTransitiveSaid : Prop := fnCmpTransitiveRow.holds Try.pinned (OpenSpec.ofChange fnCmpTransitiveSpec)

/-- ITS FALSE NEIGHBOUR: 'it returns false'. Refute it at one input. -/
def fnCmpTransitiveWrong : ChangeSpec := { name := "fnCmpTransitive", fn := fun _ => fun
  | [d1, d2, d3, d4, d5, d6, d7, d8, d9, d10, d11, d12] => { results := [.lit (.bool false)], args := [d1, d2, d3, d4, d5, d6, d7, d8, d9, d10, d11, d12] }
  | _ => none }
def FnCmpTransitiveWrongFalsely : Prop := fnCmpTransitiveRow.holds Try.pinned (OpenSpec.ofChange fnCmpTransitiveWrong)

/-- 'zzlaws_decimal_b1.FnSmallOrdersAsCmp': WHATEVER THE INPUT: true; the input reads as it did. -/
def fnSmallOrdersAsCmpSpec : ChangeSpec := { name := "fnSmallOrdersAsCmp", fn := fun _ => fun
  | [d1, d2, d3, d4, d5, d6, d7, d8, d9] => { results := [.lit (.bool true)], args := [d1, d2, d3, d4, d5, d6, d7, d8, d9] }
  | _ => none }
def fnSmallOrdersAsCmpRow : OpenClaim := { program := "qxb6000399a", sum := "8534884bc779a7a2e6503b3e811f154f4f9cd7209799bf2fd981c6fafb826559", func := "example.com/readpoint/readpoint/zzlaws_decimal_b1.FnSmallOrdersAsCmp", spec := "fnSmallOrdersAsCmp", inPlace := ["internal/bytealg.abigen_runtime_cmpstring"], apart := false }
def FnSmallOrdersAsCmpSaid : Prop := fnSmallOrdersAsCmpRow.holds Try.pinned (OpenSpec.ofChange fnSmallOrdersAsCmpSpec)

/-- ITS FALSE NEIGHBOUR: 'it returns false'. Refute it at one input. -/
def fnSmallOrdersAsCmpWrong : ChangeSpec := { name := "fnSmallOrdersAsCmp", fn := fun _ => fun
  | [d1, d2, d3, d4, d5, d6, d7, d8, d9] => { results := [.lit (.bool false)], args := [d1, d2, d3, d4, d5, d6, d7, d8, d9] }
  | _ => none }
def FnSmallOrdersAsCmpWrongFalsely : Prop := fnSmallOrdersAsCmpRow.holds Try.pinned (OpenSpec.ofChange fnSmallOrdersAsCmpWrong)

end Rows
end Go.Proofs.Qxb6000399a
