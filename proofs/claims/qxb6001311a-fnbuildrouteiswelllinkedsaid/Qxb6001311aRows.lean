/-
  No cell of these rows narrows 'for every input' (looked for: loops, veiled, ifaces, maps, wideKeys, modest, calm, conditions, laid).
  DERIVED. THE GIVEN ROWS OF THIS SEAT. 7 by the template 'for every input the law returns true; each argument reads behind the call as it read before'; 0 by the template 'total and deterministic' (their statements: Qxb6001311aTotals.lean).
  GIVEN WITH THE SEED: the statements are not yours to turn. If you find one false, say at which input.
  Laid BY PROGRAM, IN A SANDBOX (cutbox-rows.mjs): the forced cells as the released guide's own fill.sh prints them over the translation 4dbe70d7f6c80ac3… (all of the seat's roots in one cut). By AI agents, Wed Nov 11 2026. No macro, syntax, notation, axiom, sorry.
-/
import Derived.Test.Qxb6001311aChecked
import GoSem.Claim
import GoSem.ClaimJoined
import GoSem.ClaimMapViews
import Derived.JoinedTies
import Derived.KernelRfl
namespace Go.Proofs.Qxb6001311a
/- THE CELL 'sum', in the pinned program and in every row, IS THE sha256 OF THE DUMP (.gsa) THAT Qxb6001311aProg.lean LOADS. Nothing in Lean hashes anything: it is a label: what it is worth is what the hold of that sum in a sandbox is worth. -/
noncomputable def Try.pinned : Pinned := { name := "qxb6001311a", sum := "4dbe70d7f6c80ac304799e64d56d8d7681848aabea87b90891e993f82ed91fc4", checked := Try.checked }
namespace Rows
def none {H : Type} : Left H := { results := [], args := [] }

/-- 'zzlaws_bssom_b1.FnBuildRouteFindsEveryKey': WHATEVER THE INPUT: true; the input reads as it did. -/
def fnBuildRouteFindsEveryKeySpec : ChangeSpec := { name := "fnBuildRouteFindsEveryKey", fn := fun _ => fun
  | [d] => { results := [.lit (.bool true)], args := [d] }
  | _ => none }
def fnBuildRouteFindsEveryKeyRow : OpenClaim := { program := "qxb6001311a", sum := "4dbe70d7f6c80ac304799e64d56d8d7681848aabea87b90891e993f82ed91fc4", func := "example.com/fieldglass/fieldglass/zzlaws_bssom_b1.FnBuildRouteFindsEveryKey", spec := "fnBuildRouteFindsEveryKey", apart := false }
def FnBuildRouteFindsEveryKeySaid : Prop := fnBuildRouteFindsEveryKeyRow.holds Try.pinned (OpenSpec.ofChange fnBuildRouteFindsEveryKeySpec)

/-- ITS FALSE NEIGHBOUR: 'it returns false'. Refute it at one input. -/
def fnBuildRouteFindsEveryKeyWrong : ChangeSpec := { name := "fnBuildRouteFindsEveryKey", fn := fun _ => fun
  | [d] => { results := [.lit (.bool false)], args := [d] }
  | _ => none }
def FnBuildRouteFindsEveryKeyWrongFalsely : Prop := fnBuildRouteFindsEveryKeyRow.holds Try.pinned (OpenSpec.ofChange fnBuildRouteFindsEveryKeyWrong)

/-- 'zzlaws_bssom_b1.FnBuildRouteFindsOnlyItsKeys': WHATEVER THE INPUT: true; the input reads as it did. -/
def fnBuildRouteFindsOnlyItsKeysSpec : ChangeSpec := { name := "fnBuildRouteFindsOnlyItsKeys", fn := fun _ => fun
  | [d1, d2] => { results := [.lit (.bool true)], args := [d1, d2] }
  | _ => none }
def fnBuildRouteFindsOnlyItsKeysRow : OpenClaim := { program := "qxb6001311a", sum := "4dbe70d7f6c80ac304799e64d56d8d7681848aabea87b90891e993f82ed91fc4", func := "example.com/fieldglass/fieldglass/zzlaws_bssom_b1.FnBuildRouteFindsOnlyItsKeys", spec := "fnBuildRouteFindsOnlyItsKeys", apart := false }
def FnBuildRouteFindsOnlyItsKeysSaid : Prop := fnBuildRouteFindsOnlyItsKeysRow.holds Try.pinned (OpenSpec.ofChange fnBuildRouteFindsOnlyItsKeysSpec)

/-- ITS FALSE NEIGHBOUR: 'it returns false'. Refute it at one input. -/
def fnBuildRouteFindsOnlyItsKeysWrong : ChangeSpec := { name := "fnBuildRouteFindsOnlyItsKeys", fn := fun _ => fun
  | [d1, d2] => { results := [.lit (.bool false)], args := [d1, d2] }
  | _ => none }
def FnBuildRouteFindsOnlyItsKeysWrongFalsely : Prop := fnBuildRouteFindsOnlyItsKeysRow.holds Try.pinned (OpenSpec.ofChange fnBuildRouteFindsOnlyItsKeysWrong)

/-- 'zzlaws_bssom_b1.FnBuildRouteIsWellLinked': WHATEVER THE INPUT: true; the input reads as it did. -/
def fnBuildRouteIsWellLinkedSpec : ChangeSpec := { name := "fnBuildRouteIsWellLinked", fn := fun _ => fun
  | [d] => { results := [.lit (.bool true)], args := [d] }
  | _ => none }
def fnBuildRouteIsWellLinkedRow : OpenClaim := { program := "qxb6001311a", sum := "4dbe70d7f6c80ac304799e64d56d8d7681848aabea87b90891e993f82ed91fc4", func := "example.com/fieldglass/fieldglass/zzlaws_bssom_b1.FnBuildRouteIsWellLinked", spec := "fnBuildRouteIsWellLinked", apart := false }
def FnBuildRouteIsWellLinkedSaid : Prop := fnBuildRouteIsWellLinkedRow.holds Try.pinned (OpenSpec.ofChange fnBuildRouteIsWellLinkedSpec)

/-- ITS FALSE NEIGHBOUR: 'it returns false'. Refute it at one input. -/
def fnBuildRouteIsWellLinkedWrong : ChangeSpec := { name := "fnBuildRouteIsWellLinked", fn := fun _ => fun
  | [d] => { results := [.lit (.bool false)], args := [d] }
  | _ => none }
def FnBuildRouteIsWellLinkedWrongFalsely : Prop := fnBuildRouteIsWellLinkedRow.holds Try.pinned (OpenSpec.ofChange fnBuildRouteIsWellLinkedWrong)

/-- 'zzlaws_bssom_b1.FnKeysFitRouteHoldsForShortKeys': WHATEVER THE INPUT: true; the input reads as it did. -/
def fnKeysFitRouteHoldsForShortKeysSpec : ChangeSpec := { name := "fnKeysFitRouteHoldsForShortKeys", fn := fun _ => fun
  | [d] => { results := [.lit (.bool true)], args := [d] }
  | _ => none }
def fnKeysFitRouteHoldsForShortKeysRow : OpenClaim := { program := "qxb6001311a", sum := "4dbe70d7f6c80ac304799e64d56d8d7681848aabea87b90891e993f82ed91fc4", func := "example.com/fieldglass/fieldglass/zzlaws_bssom_b1.FnKeysFitRouteHoldsForShortKeys", spec := "fnKeysFitRouteHoldsForShortKeys", apart := false }
def FnKeysFitRouteHoldsForShortKeysSaid : Prop := fnKeysFitRouteHoldsForShortKeysRow.holds Try.pinned (OpenSpec.ofChange fnKeysFitRouteHoldsForShortKeysSpec)

/-- ITS FALSE NEIGHBOUR: 'it returns false'. Refute it at one input. -/
def fnKeysFitRouteHoldsForShortKeysWrong : ChangeSpec := { name := "fnKeysFitRouteHoldsForShortKeys", fn := fun _ => fun
  | [d] => { results := [.lit (.bool false)], args := [d] }
  | _ => none }
def FnKeysFitRouteHoldsForShortKeysWrongFalsely : Prop := fnKeysFitRouteHoldsForShortKeysRow.holds Try.pinned (OpenSpec.ofChange fnKeysFitRouteHoldsForShortKeysWrong)

/-- 'zzlaws_bssom_b1.FnSetTokenIgnoresNonTokens': WHATEVER THE INPUT: true; the input reads as it did. -/
def fnSetTokenIgnoresNonTokensSpec : ChangeSpec := { name := "fnSetTokenIgnoresNonTokens", fn := fun _ => fun
  | [d1, d2] => { results := [.lit (.bool true)], args := [d1, d2] }
  | _ => none }
def fnSetTokenIgnoresNonTokensRow : OpenClaim := { program := "qxb6001311a", sum := "4dbe70d7f6c80ac304799e64d56d8d7681848aabea87b90891e993f82ed91fc4", func := "example.com/fieldglass/fieldglass/zzlaws_bssom_b1.FnSetTokenIgnoresNonTokens", spec := "fnSetTokenIgnoresNonTokens", apart := false }
def FnSetTokenIgnoresNonTokensSaid : Prop := fnSetTokenIgnoresNonTokensRow.holds Try.pinned (OpenSpec.ofChange fnSetTokenIgnoresNonTokensSpec)

/-- ITS FALSE NEIGHBOUR: 'it returns false'. Refute it at one input. -/
def fnSetTokenIgnoresNonTokensWrong : ChangeSpec := { name := "fnSetTokenIgnoresNonTokens", fn := fun _ => fun
  | [d1, d2] => { results := [.lit (.bool false)], args := [d1, d2] }
  | _ => none }
def FnSetTokenIgnoresNonTokensWrongFalsely : Prop := fnSetTokenIgnoresNonTokensRow.holds Try.pinned (OpenSpec.ofChange fnSetTokenIgnoresNonTokensWrong)

/-- 'zzlaws_bssom_b1.FnSetTokenInvertsTokenEncoding': WHATEVER THE INPUT: true; the input reads as it did. -/
def fnSetTokenInvertsTokenEncodingSpec : ChangeSpec := { name := "fnSetTokenInvertsTokenEncoding", fn := fun _ => fun
  | [d1, d2] => { results := [.lit (.bool true)], args := [d1, d2] }
  | _ => none }
def fnSetTokenInvertsTokenEncodingRow : OpenClaim := { program := "qxb6001311a", sum := "4dbe70d7f6c80ac304799e64d56d8d7681848aabea87b90891e993f82ed91fc4", func := "example.com/fieldglass/fieldglass/zzlaws_bssom_b1.FnSetTokenInvertsTokenEncoding", spec := "fnSetTokenInvertsTokenEncoding", apart := false }
def FnSetTokenInvertsTokenEncodingSaid : Prop := fnSetTokenInvertsTokenEncodingRow.holds Try.pinned (OpenSpec.ofChange fnSetTokenInvertsTokenEncodingSpec)

/-- ITS FALSE NEIGHBOUR: 'it returns false'. Refute it at one input. -/
def fnSetTokenInvertsTokenEncodingWrong : ChangeSpec := { name := "fnSetTokenInvertsTokenEncoding", fn := fun _ => fun
  | [d1, d2] => { results := [.lit (.bool false)], args := [d1, d2] }
  | _ => none }
def FnSetTokenInvertsTokenEncodingWrongFalsely : Prop := fnSetTokenInvertsTokenEncodingRow.holds Try.pinned (OpenSpec.ofChange fnSetTokenInvertsTokenEncodingWrong)

/-- 'zzlaws_bssom_b1.FnSetTokenAgreesWithHasNext': WHATEVER THE INPUT: true; the input reads as it did. -/
def fnSetTokenAgreesWithHasNextSpec : ChangeSpec := { name := "fnSetTokenAgreesWithHasNext", fn := fun _ => fun
  | [d1, d2] => { results := [.lit (.bool true)], args := [d1, d2] }
  | _ => none }
def fnSetTokenAgreesWithHasNextRow : OpenClaim := { program := "qxb6001311a", sum := "4dbe70d7f6c80ac304799e64d56d8d7681848aabea87b90891e993f82ed91fc4", func := "example.com/fieldglass/fieldglass/zzlaws_bssom_b1.FnSetTokenAgreesWithHasNext", spec := "fnSetTokenAgreesWithHasNext", apart := false }
def FnSetTokenAgreesWithHasNextSaid : Prop := fnSetTokenAgreesWithHasNextRow.holds Try.pinned (OpenSpec.ofChange fnSetTokenAgreesWithHasNextSpec)

/-- ITS FALSE NEIGHBOUR: 'it returns false'. Refute it at one input. -/
def fnSetTokenAgreesWithHasNextWrong : ChangeSpec := { name := "fnSetTokenAgreesWithHasNext", fn := fun _ => fun
  | [d1, d2] => { results := [.lit (.bool false)], args := [d1, d2] }
  | _ => none }
def FnSetTokenAgreesWithHasNextWrongFalsely : Prop := fnSetTokenAgreesWithHasNextRow.holds Try.pinned (OpenSpec.ofChange fnSetTokenAgreesWithHasNextWrong)

end Rows
end Go.Proofs.Qxb6001311a
