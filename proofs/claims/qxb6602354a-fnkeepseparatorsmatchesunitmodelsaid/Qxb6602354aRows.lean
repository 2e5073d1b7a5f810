/-
  No cell of these rows narrows 'for every input' (looked for: loops, veiled, ifaces, maps, wideKeys, modest, calm, conditions, laid).
  DERIVED. THE GIVEN ROWS OF THIS SEAT. 5 by the template 'for every input the law returns true; each argument reads behind the call as it read before'; 0 by the template 'total and deterministic' (their statements: Qxb6602354aTotals.lean).
  GIVEN WITH THE SEED: the statements are not yours to turn. If you find one false, say at which input.
  Laid BY PROGRAM, IN A SANDBOX (cutbox-rows.mjs): the forced cells as the released guide's own fill.sh prints them over the translation dbdefaf9193d836a… (all of the seat's roots in one cut). By AI agents, Wed Nov 11 2026. No macro, syntax, notation, axiom, sorry.
-/
import Derived.Test.Qxb6602354aChecked
import GoSem.Claim
import GoSem.ClaimJoined
import GoSem.ClaimMapViews
import Derived.JoinedTies
import Derived.KernelRfl
namespace Go.Proofs.Qxb6602354a
/- THE CELL 'sum', in the pinned program and in every row, IS THE sha256 OF THE DUMP (.gsa) THAT Qxb6602354aProg.lean LOADS. Nothing in Lean hashes anything: it is a label: what it is worth is what the hold of that sum in a sandbox is worth. -/
noncomputable def Try.pinned : Pinned := { name := "qxb6602354a", sum := "dbdefaf9193d836a9e605406c46216f3dd8ab5004ae95c3508ed464c974281d9", checked := Try.checked }
namespace Rows
def none {H : Type} : Left H := { results := [], args := [] }

/-- 'zzlaws_internal_jsonrpc_b1.FnKeepSeparatorsMatchesUnitModel': WHATEVER THE INPUT: true; the input reads as it did. -/
def fnKeepSeparatorsMatchesUnitModelSpec : ChangeSpec := { name := "fnKeepSeparatorsMatchesUnitModel", fn := fun _ => fun
  | [d] => { results := [.lit (.bool true)], args := [d] }
  | _ => none }
def fnKeepSeparatorsMatchesUnitModelRow : OpenClaim := { program := "qxb6602354a", sum := "dbdefaf9193d836a9e605406c46216f3dd8ab5004ae95c3508ed464c974281d9", func := "example.com/humbaba/humbaba/zzlaws_internal_jsonrpc_b1.FnKeepSeparatorsMatchesUnitModel", spec := "fnKeepSeparatorsMatchesUnitModel", apart := false }
def FnKeepSeparatorsMatchesUnitModelSaid : Prop := fnKeepSeparatorsMatchesUnitModelRow.holds Try.pinned (OpenSpec.ofChange fnKeepSeparatorsMatchesUnitModelSpec)

/-- ITS FALSE NEIGHBOUR: 'it returns false'. Refute it at one input. -/
def fnKeepSeparatorsMatchesUnitModelWrong : ChangeSpec := { name := "fnKeepSeparatorsMatchesUnitModel", fn := fun _ => fun
  | [d] => { results := [.lit (.bool false)], args := [d] }
  | _ => none }
def FnKeepSeparatorsMatchesUnitModelWrongFalsely : Prop := fnKeepSeparatorsMatchesUnitModelRow.holds Try.pinned (OpenSpec.ofChange fnKeepSeparatorsMatchesUnitModelWrong)

/-- 'zzlaws_internal_jsonrpc_b1.FnKeepSeparatorsIsIdempotent': WHATEVER THE INPUT: true; the input reads as it did. -/
def fnKeepSeparatorsIsIdempotentSpec : ChangeSpec := { name := "fnKeepSeparatorsIsIdempotent", fn := fun _ => fun
  | [d] => { results := [.lit (.bool true)], args := [d] }
  | _ => none }
def fnKeepSeparatorsIsIdempotentRow : OpenClaim := { program := "qxb6602354a", sum := "dbdefaf9193d836a9e605406c46216f3dd8ab5004ae95c3508ed464c974281d9", func := "example.com/humbaba/humbaba/zzlaws_internal_jsonrpc_b1.FnKeepSeparatorsIsIdempotent", spec := "fnKeepSeparatorsIsIdempotent", apart := false }
def FnKeepSeparatorsIsIdempotentSaid : Prop := fnKeepSeparatorsIsIdempotentRow.holds Try.pinned (OpenSpec.ofChange fnKeepSeparatorsIsIdempotentSpec)

/-- ITS FALSE NEIGHBOUR: 'it returns false'. Refute it at one input. -/
def fnKeepSeparatorsIsIdempotentWrong : ChangeSpec := { name := "fnKeepSeparatorsIsIdempotent", fn := fun _ => fun
  | [d] => { results := [.lit (.bool false)], args := [d] }
  | _ => none }
def FnKeepSeparatorsIsIdempotentWrongFalsely : Prop := fnKeepSeparatorsIsIdempotentRow.holds Try.pinned (OpenSpec.ofChange fnKeepSeparatorsIsIdempotentWrong)

/-- 'zzlaws_internal_jsonrpc_b1.FnKeepSeparatorsUndoneByReescaping': WHATEVER THE INPUT: true; the input reads as it did. -/
def fnKeepSeparatorsUndoneByReescapingSpec : ChangeSpec := { name := "fnKeepSeparatorsUndoneByReescaping", fn := fun _ => fun
  | [d] => { results := [.lit (.bool true)], args := [d] }
  | _ => none }
def fnKeepSeparatorsUndoneByReescapingRow : OpenClaim := { program := "qxb6602354a", sum := "dbdefaf9193d836a9e605406c46216f3dd8ab5004ae95c3508ed464c974281d9", func := "example.com/humbaba/humbaba/zzlaws_internal_jsonrpc_b1.FnKeepSeparatorsUndoneByReescaping", spec := "fnKeepSeparatorsUndoneByReescaping", apart := false }
def FnKeepSeparatorsUndoneByReescapingSaid : Prop := fnKeepSeparatorsUndoneByReescapingRow.holds Try.pinned (OpenSpec.ofChange fnKeepSeparatorsUndoneByReescapingSpec)

/-- ITS FALSE NEIGHBOUR: 'it returns false'. Refute it at one input. -/
def fnKeepSeparatorsUndoneByReescapingWrong : ChangeSpec := { name := "fnKeepSeparatorsUndoneByReescaping", fn := fun _ => fun
  | [d] => { results := [.lit (.bool false)], args := [d] }
  | _ => none }
def FnKeepSeparatorsUndoneByReescapingWrongFalsely : Prop := fnKeepSeparatorsUndoneByReescapingRow.holds Try.pinned (OpenSpec.ofChange fnKeepSeparatorsUndoneByReescapingWrong)

/-- 'zzlaws_internal_jsonrpc_b1.FnHexRuneMatchesPositionalValue': WHATEVER THE INPUT: true; the input reads as it did. -/
def fnHexRuneMatchesPositionalValueSpec : ChangeSpec := { name := "fnHexRuneMatchesPositionalValue", fn := fun _ => fun
  | [d] => { results := [.lit (.bool true)], args := [d] }
  | _ => none }
def fnHexRuneMatchesPositionalValueRow : OpenClaim := { program := "qxb6602354a", sum := "dbdefaf9193d836a9e605406c46216f3dd8ab5004ae95c3508ed464c974281d9", func := "example.com/humbaba/humbaba/zzlaws_internal_jsonrpc_b1.FnHexRuneMatchesPositionalValue", spec := "fnHexRuneMatchesPositionalValue", apart := false }
def FnHexRuneMatchesPositionalValueSaid : Prop := fnHexRuneMatchesPositionalValueRow.holds Try.pinned (OpenSpec.ofChange fnHexRuneMatchesPositionalValueSpec)

/-- ITS FALSE NEIGHBOUR: 'it returns false'. Refute it at one input. -/
def fnHexRuneMatchesPositionalValueWrong : ChangeSpec := { name := "fnHexRuneMatchesPositionalValue", fn := fun _ => fun
  | [d] => { results := [.lit (.bool false)], args := [d] }
  | _ => none }
def FnHexRuneMatchesPositionalValueWrongFalsely : Prop := fnHexRuneMatchesPositionalValueRow.holds Try.pinned (OpenSpec.ofChange fnHexRuneMatchesPositionalValueWrong)

/-- 'zzlaws_internal_jsonrpc_b1.FnHexRuneInvertsHexFormatting': WHATEVER THE INPUT: true; the input reads as it did. -/
def fnHexRuneInvertsHexFormattingSpec : ChangeSpec := { name := "fnHexRuneInvertsHexFormatting", fn := fun _ => fun
  | [d1, d2] => { results := [.lit (.bool true)], args := [d1, d2] }
  | _ => none }
def fnHexRuneInvertsHexFormattingRow : OpenClaim := { program := "qxb6602354a", sum := "dbdefaf9193d836a9e605406c46216f3dd8ab5004ae95c3508ed464c974281d9", func := "example.com/humbaba/humbaba/zzlaws_internal_jsonrpc_b1.FnHexRuneInvertsHexFormatting", spec := "fnHexRuneInvertsHexFormatting", apart := false }
def FnHexRuneInvertsHexFormattingSaid : Prop := fnHexRuneInvertsHexFormattingRow.holds Try.pinned (OpenSpec.ofChange fnHexRuneInvertsHexFormattingSpec)

/-- ITS FALSE NEIGHBOUR: 'it returns false'. Refute it at one input. -/
def fnHexRuneInvertsHexFormattingWrong : ChangeSpec := { name := "fnHexRuneInvertsHexFormatting", fn := fun _ => fun
  | [d1, d2] => { results := [.lit (.bool false)], args := [d1, d2] }
  | _ => none }
def FnHexRuneInvertsHexFormattingWrongFalsely : Prop := fnHexRuneInvertsHexFormattingRow.holds Try.pinned (OpenSpec.ofChange fnHexRuneInvertsHexFormattingWrong)

end Rows
end Go.Proofs.Qxb6602354a
