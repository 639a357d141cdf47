/-
  No cell of these rows narrows 'for every input' (looked for: loops, veiled, ifaces, maps, wideKeys, modest, calm, conditions, laid).
  DERIVED. THE GIVEN ROWS OF THIS SEAT. 7 by the template 'for every input the law returns true; each argument reads behind the call as it read before'; 0 by the template 'total and deterministic' (their statements: Qxb6600304aModsTotals.lean).
  GIVEN WITH THE SEED: the statements are not yours to turn. If you find one false, say at which input.
  Laid BY PROGRAM, IN A SANDBOX (cutbox-rows.mjs): the forced cells as the released guide's own fill.sh prints them over the translation 3496365de5707655… (all of the seat's roots in one cut). By AI agents, Wed Nov 11 2026. No macro, syntax, notation, axiom, sorry.
-/
import Derived.Test.Qxb6600304aModsChecked
import GoSem.Claim
import GoSem.ClaimJoined
import GoSem.ClaimMapViews
import Derived.JoinedTies
import Derived.KernelRfl
namespace Go.Proofs.Qxb6600304aMods
/- THE CELL 'sum', in the pinned program and in every row, IS THE sha256 OF THE DUMP (.gsa) THAT Qxb6600304aModsProg.lean LOADS. Nothing in Lean hashes anything: it is a label: what it is worth is what the hold of that sum in a sandbox is worth. -/
noncomputable def Trym.pinned : Pinned := { name := "qxb6600304amods", sum := "3496365de5707655436ed9f306b28a7afa30c5e6b5530d3fe88508f571c10932", checked := Trym.checked }
namespace Rows
def none {H : Type} : Left H := { results := [], args := [] }

/-- 'zzlaws_internal_messaging_b1.FnIsCharMatchesXMLCharByExclusion': WHATEVER THE INPUT: true; the input reads as it did. -/
def fnIsCharMatchesXMLCharByExclusionSpec : ChangeSpec := { name := "fnIsCharMatchesXMLCharByExclusion", fn := fun _ => fun
  | [d] => { results := [.lit (.bool true)], args := [d] }
  | _ => none }
def fnIsCharMatchesXMLCharByExclusionRow : OpenClaim := { program := "qxb6600304amods", sum := "3496365de5707655436ed9f306b28a7afa30c5e6b5530d3fe88508f571c10932", func := "example.com/portwire/portwire/zzlaws_internal_messaging_b1.FnIsCharMatchesXMLCharByExclusion", spec := "fnIsCharMatchesXMLCharByExclusion", make := .lifted ["publicsums"], apart := false }
def FnIsCharMatchesXMLCharByExclusionSaid : Prop := fnIsCharMatchesXMLCharByExclusionRow.holds Trym.pinned (OpenSpec.ofChange fnIsCharMatchesXMLCharByExclusionSpec)

/-- ITS FALSE NEIGHBOUR: 'it returns false'. Refute it at one input. -/
def fnIsCharMatchesXMLCharByExclusionWrong : ChangeSpec := { name := "fnIsCharMatchesXMLCharByExclusion", fn := fun _ => fun
  | [d] => { results := [.lit (.bool false)], args := [d] }
  | _ => none }
def FnIsCharMatchesXMLCharByExclusionWrongFalsely : Prop := fnIsCharMatchesXMLCharByExclusionRow.holds Trym.pinned (OpenSpec.ofChange fnIsCharMatchesXMLCharByExclusionWrong)

/-- 'zzlaws_internal_messaging_b1.FnAttributesApartMatchesValueScan': WHATEVER THE INPUT: true; the input reads as it did. -/
def fnAttributesApartMatchesValueScanSpec : ChangeSpec := { name := "fnAttributesApartMatchesValueScan", fn := fun _ => fun
  | [d] => { results := [.lit (.bool true)], args := [d] }
  | _ => none }
def fnAttributesApartMatchesValueScanRow : OpenClaim := { program := "qxb6600304amods", sum := "3496365de5707655436ed9f306b28a7afa30c5e6b5530d3fe88508f571c10932", func := "example.com/portwire/portwire/zzlaws_internal_messaging_b1.FnAttributesApartMatchesValueScan", spec := "fnAttributesApartMatchesValueScan", inPlace := ["internal/bytealg.IndexByteString"], make := .lifted ["publicsums"], apart := false }
def FnAttributesApartMatchesValueScanSaid : Prop := fnAttributesApartMatchesValueScanRow.holds Trym.pinned (OpenSpec.ofChange fnAttributesApartMatchesValueScanSpec)

/-- ITS FALSE NEIGHBOUR: 'it returns false'. Refute it at one input. -/
def fnAttributesApartMatchesValueScanWrong : ChangeSpec := { name := "fnAttributesApartMatchesValueScan", fn := fun _ => fun
  | [d] => { results := [.lit (.bool false)], args := [d] }
  | _ => none }
def FnAttributesApartMatchesValueScanWrongFalsely : Prop := fnAttributesApartMatchesValueScanRow.holds Trym.pinned (OpenSpec.ofChange fnAttributesApartMatchesValueScanWrong)

/-- 'zzlaws_internal_messaging_b1.FnAttributesApartPrefixClosed': WHATEVER THE INPUT: true; the input reads as it did. -/
def fnAttributesApartPrefixClosedSpec : ChangeSpec := { name := "fnAttributesApartPrefixClosed", fn := fun _ => fun
  | [d1, d2] => { results := [.lit (.bool true)], args := [d1, d2] }
  | _ => none }
def fnAttributesApartPrefixClosedRow : OpenClaim := { program := "qxb6600304amods", sum := "3496365de5707655436ed9f306b28a7afa30c5e6b5530d3fe88508f571c10932", func := "example.com/portwire/portwire/zzlaws_internal_messaging_b1.FnAttributesApartPrefixClosed", spec := "fnAttributesApartPrefixClosed", inPlace := ["internal/bytealg.IndexByteString"], make := .lifted ["publicsums"], apart := false }
def FnAttributesApartPrefixClosedSaid : Prop := fnAttributesApartPrefixClosedRow.holds Trym.pinned (OpenSpec.ofChange fnAttributesApartPrefixClosedSpec)

/-- ITS FALSE NEIGHBOUR: 'it returns false'. Refute it at one input. -/
def fnAttributesApartPrefixClosedWrong : ChangeSpec := { name := "fnAttributesApartPrefixClosed", fn := fun _ => fun
  | [d1, d2] => { results := [.lit (.bool false)], args := [d1, d2] }
  | _ => none }
def FnAttributesApartPrefixClosedWrongFalsely : Prop := fnAttributesApartPrefixClosedRow.holds Trym.pinned (OpenSpec.ofChange fnAttributesApartPrefixClosedWrong)

/-- 'zzlaws_internal_messaging_b1.FnAttributesApartAfterSpacingQuotes': WHATEVER THE INPUT: true; the input reads as it did. -/
def fnAttributesApartAfterSpacingQuotesSpec : ChangeSpec := { name := "fnAttributesApartAfterSpacingQuotes", fn := fun _ => fun
  | [d] => { results := [.lit (.bool true)], args := [d] }
  | _ => none }
def fnAttributesApartAfterSpacingQuotesRow : OpenClaim := { program := "qxb6600304amods", sum := "3496365de5707655436ed9f306b28a7afa30c5e6b5530d3fe88508f571c10932", func := "example.com/portwire/portwire/zzlaws_internal_messaging_b1.FnAttributesApartAfterSpacingQuotes", spec := "fnAttributesApartAfterSpacingQuotes", inPlace := ["internal/bytealg.IndexByteString"], make := .lifted ["publicsums"], apart := false }
def FnAttributesApartAfterSpacingQuotesSaid : Prop := fnAttributesApartAfterSpacingQuotesRow.holds Trym.pinned (OpenSpec.ofChange fnAttributesApartAfterSpacingQuotesSpec)

/-- ITS FALSE NEIGHBOUR: 'it returns false'. Refute it at one input. -/
def fnAttributesApartAfterSpacingQuotesWrong : ChangeSpec := { name := "fnAttributesApartAfterSpacingQuotes", fn := fun _ => fun
  | [d] => { results := [.lit (.bool false)], args := [d] }
  | _ => none }
def FnAttributesApartAfterSpacingQuotesWrongFalsely : Prop := fnAttributesApartAfterSpacingQuotesRow.holds Trym.pinned (OpenSpec.ofChange fnAttributesApartAfterSpacingQuotesWrong)

/-- 'zzlaws_internal_messaging_b1.FnHasNameMatchesBackwardScan': WHATEVER THE INPUT: true; the input reads as it did. -/
def fnHasNameMatchesBackwardScanSpec : ChangeSpec := { name := "fnHasNameMatchesBackwardScan", fn := fun _ => fun
  | [d1, d2] => { results := [.lit (.bool true)], args := [d1, d2] }
  | _ => none }
def fnHasNameMatchesBackwardScanRow : OpenClaim := { program := "qxb6600304amods", sum := "3496365de5707655436ed9f306b28a7afa30c5e6b5530d3fe88508f571c10932", func := "example.com/portwire/portwire/zzlaws_internal_messaging_b1.FnHasNameMatchesBackwardScan", spec := "fnHasNameMatchesBackwardScan", make := .lifted ["publicsums"], apart := false }
def FnHasNameMatchesBackwardScanSaid : Prop := fnHasNameMatchesBackwardScanRow.holds Trym.pinned (OpenSpec.ofChange fnHasNameMatchesBackwardScanSpec)

/-- ITS FALSE NEIGHBOUR: 'it returns false'. Refute it at one input. -/
def fnHasNameMatchesBackwardScanWrong : ChangeSpec := { name := "fnHasNameMatchesBackwardScan", fn := fun _ => fun
  | [d1, d2] => { results := [.lit (.bool false)], args := [d1, d2] }
  | _ => none }
def FnHasNameMatchesBackwardScanWrongFalsely : Prop := fnHasNameMatchesBackwardScanRow.holds Trym.pinned (OpenSpec.ofChange fnHasNameMatchesBackwardScanWrong)

/-- 'zzlaws_internal_messaging_b1.FnHasNameOfConcatenation': WHATEVER THE INPUT: true; the input reads as it did. -/
def fnHasNameOfConcatenationSpec : ChangeSpec := { name := "fnHasNameOfConcatenation", fn := fun _ => fun
  | [d1, d2, d3] => { results := [.lit (.bool true)], args := [d1, d2, d3] }
  | _ => none }
def fnHasNameOfConcatenationRow : OpenClaim := { program := "qxb6600304amods", sum := "3496365de5707655436ed9f306b28a7afa30c5e6b5530d3fe88508f571c10932", func := "example.com/portwire/portwire/zzlaws_internal_messaging_b1.FnHasNameOfConcatenation", spec := "fnHasNameOfConcatenation", make := .lifted ["publicsums"], apart := false }
def FnHasNameOfConcatenationSaid : Prop := fnHasNameOfConcatenationRow.holds Trym.pinned (OpenSpec.ofChange fnHasNameOfConcatenationSpec)

/-- ITS FALSE NEIGHBOUR: 'it returns false'. Refute it at one input. -/
def fnHasNameOfConcatenationWrong : ChangeSpec := { name := "fnHasNameOfConcatenation", fn := fun _ => fun
  | [d1, d2, d3] => { results := [.lit (.bool false)], args := [d1, d2, d3] }
  | _ => none }
def FnHasNameOfConcatenationWrongFalsely : Prop := fnHasNameOfConcatenationRow.holds Trym.pinned (OpenSpec.ofChange fnHasNameOfConcatenationWrong)

/-- 'zzlaws_internal_messaging_b1.FnHasNameFindsInsertedMissesRemoved': WHATEVER THE INPUT: true; the input reads as it did. -/
def fnHasNameFindsInsertedMissesRemovedSpec : ChangeSpec := { name := "fnHasNameFindsInsertedMissesRemoved", fn := fun _ => fun
  | [d1, d2, d3] => { results := [.lit (.bool true)], args := [d1, d2, d3] }
  | _ => none }
def fnHasNameFindsInsertedMissesRemovedRow : OpenClaim := { program := "qxb6600304amods", sum := "3496365de5707655436ed9f306b28a7afa30c5e6b5530d3fe88508f571c10932", func := "example.com/portwire/portwire/zzlaws_internal_messaging_b1.FnHasNameFindsInsertedMissesRemoved", spec := "fnHasNameFindsInsertedMissesRemoved", make := .lifted ["publicsums"], apart := false }
def FnHasNameFindsInsertedMissesRemovedSaid : Prop := fnHasNameFindsInsertedMissesRemovedRow.holds Trym.pinned (OpenSpec.ofChange fnHasNameFindsInsertedMissesRemovedSpec)

/-- ITS FALSE NEIGHBOUR: 'it returns false'. Refute it at one input. -/
def fnHasNameFindsInsertedMissesRemovedWrong : ChangeSpec := { name := "fnHasNameFindsInsertedMissesRemoved", fn := fun _ => fun
  | [d1, d2, d3] => { results := [.lit (.bool false)], args := [d1, d2, d3] }
  | _ => none }
def FnHasNameFindsInsertedMissesRemovedWrongFalsely : Prop := fnHasNameFindsInsertedMissesRemovedRow.holds Trym.pinned (OpenSpec.ofChange fnHasNameFindsInsertedMissesRemovedWrong)

end Rows
end Go.Proofs.Qxb6600304aMods
