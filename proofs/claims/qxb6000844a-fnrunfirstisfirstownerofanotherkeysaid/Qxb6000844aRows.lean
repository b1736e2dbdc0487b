/-
  No cell of these rows narrows 'for every input' (looked for: loops, veiled, ifaces, maps, wideKeys, modest, calm, conditions, laid).
  DERIVED. THE GIVEN ROWS OF THIS SEAT. 5 by the template 'for every input the law returns true; each argument reads behind the call as it read before'; 0 by the template 'total and deterministic' (their statements: Qxb6000844aTotals.lean).
  GIVEN WITH THE SEED: the statements are not yours to turn. If you find one false, say at which input.
  Laid BY PROGRAM, IN A SANDBOX (cutbox-rows.mjs): the forced cells as the released guide's own fill.sh prints them over the translation 9647ccb0d7406bf5… (all of the seat's roots in one cut). By AI agents, Wed Nov 11 2026. No macro, syntax, notation, axiom, sorry.
-/
import Derived.Test.Qxb6000844aChecked
import GoSem.Claim
import GoSem.ClaimJoined
import GoSem.ClaimMapViews
import Derived.JoinedTies
import Derived.KernelRfl
namespace Go.Proofs.Qxb6000844a
/- THE CELL 'sum', in the pinned program and in every row, IS THE sha256 OF THE DUMP (.gsa) THAT Qxb6000844aProg.lean LOADS. Nothing in Lean hashes anything: it is a label: what it is worth is what the hold of that sum in a sandbox is worth. -/
noncomputable def Try.pinned : Pinned := { name := "qxb6000844a", sum := "9647ccb0d7406bf5aa4bb57ae7662bda142ceedfb1863be59165098b3447a802", checked := Try.checked }
namespace Rows
def none {H : Type} : Left H := { results := [], args := [] }

/-- 'zzlaws_graphql_b1.FnPhoneSeparatorsDoNotMatter': WHATEVER THE INPUT: true; the input reads as it did. -/
def fnPhoneSeparatorsDoNotMatterSpec : ChangeSpec := { name := "fnPhoneSeparatorsDoNotMatter", fn := fun _ => fun
  | [d1, d2, d3] => { results := [.lit (.bool true)], args := [d1, d2, d3] }
  | _ => none }
def fnPhoneSeparatorsDoNotMatterRow : OpenClaim := { program := "qxb6000844a", sum := "9647ccb0d7406bf5aa4bb57ae7662bda142ceedfb1863be59165098b3447a802", func := "example.com/resolvent/resolvent/zzlaws_graphql_b1.FnPhoneSeparatorsDoNotMatter", spec := "fnPhoneSeparatorsDoNotMatter", apart := false }
def FnPhoneSeparatorsDoNotMatterSaid : Prop := fnPhoneSeparatorsDoNotMatterRow.holds Try.pinned (OpenSpec.ofChange fnPhoneSeparatorsDoNotMatterSpec)

/-- ITS FALSE NEIGHBOUR: 'it returns false'. Refute it at one input. -/
def fnPhoneSeparatorsDoNotMatterWrong : ChangeSpec := { name := "fnPhoneSeparatorsDoNotMatter", fn := fun _ => fun
  | [d1, d2, d3] => { results := [.lit (.bool false)], args := [d1, d2, d3] }
  | _ => none }
def FnPhoneSeparatorsDoNotMatterWrongFalsely : Prop := fnPhoneSeparatorsDoNotMatterRow.holds Try.pinned (OpenSpec.ofChange fnPhoneSeparatorsDoNotMatterWrong)

/-- 'zzlaws_graphql_b1.FnPhoneTrunkPrefixAndCountryCodeAgree': WHATEVER THE INPUT: true; the input reads as it did. -/
def fnPhoneTrunkPrefixAndCountryCodeAgreeSpec : ChangeSpec := { name := "fnPhoneTrunkPrefixAndCountryCodeAgree", fn := fun _ => fun
  | [d] => { results := [.lit (.bool true)], args := [d] }
  | _ => none }
def fnPhoneTrunkPrefixAndCountryCodeAgreeRow : OpenClaim := { program := "qxb6000844a", sum := "9647ccb0d7406bf5aa4bb57ae7662bda142ceedfb1863be59165098b3447a802", func := "example.com/resolvent/resolvent/zzlaws_graphql_b1.FnPhoneTrunkPrefixAndCountryCodeAgree", spec := "fnPhoneTrunkPrefixAndCountryCodeAgree", apart := false }
def FnPhoneTrunkPrefixAndCountryCodeAgreeSaid : Prop := fnPhoneTrunkPrefixAndCountryCodeAgreeRow.holds Try.pinned (OpenSpec.ofChange fnPhoneTrunkPrefixAndCountryCodeAgreeSpec)

/-- ITS FALSE NEIGHBOUR: 'it returns false'. Refute it at one input. -/
def fnPhoneTrunkPrefixAndCountryCodeAgreeWrong : ChangeSpec := { name := "fnPhoneTrunkPrefixAndCountryCodeAgree", fn := fun _ => fun
  | [d] => { results := [.lit (.bool false)], args := [d] }
  | _ => none }
def FnPhoneTrunkPrefixAndCountryCodeAgreeWrongFalsely : Prop := fnPhoneTrunkPrefixAndCountryCodeAgreeRow.holds Try.pinned (OpenSpec.ofChange fnPhoneTrunkPrefixAndCountryCodeAgreeWrong)

/-- 'zzlaws_graphql_b1.FnPhoneAcceptedHasShape': WHATEVER THE INPUT: true; the input reads as it did. -/
def fnPhoneAcceptedHasShapeSpec : ChangeSpec := { name := "fnPhoneAcceptedHasShape", fn := fun _ => fun
  | [d] => { results := [.lit (.bool true)], args := [d] }
  | _ => none }
def fnPhoneAcceptedHasShapeRow : OpenClaim := { program := "qxb6000844a", sum := "9647ccb0d7406bf5aa4bb57ae7662bda142ceedfb1863be59165098b3447a802", func := "example.com/resolvent/resolvent/zzlaws_graphql_b1.FnPhoneAcceptedHasShape", spec := "fnPhoneAcceptedHasShape", apart := false }
def FnPhoneAcceptedHasShapeSaid : Prop := fnPhoneAcceptedHasShapeRow.holds Try.pinned (OpenSpec.ofChange fnPhoneAcceptedHasShapeSpec)

/-- ITS FALSE NEIGHBOUR: 'it returns false'. Refute it at one input. -/
def fnPhoneAcceptedHasShapeWrong : ChangeSpec := { name := "fnPhoneAcceptedHasShape", fn := fun _ => fun
  | [d] => { results := [.lit (.bool false)], args := [d] }
  | _ => none }
def FnPhoneAcceptedHasShapeWrongFalsely : Prop := fnPhoneAcceptedHasShapeRow.holds Try.pinned (OpenSpec.ofChange fnPhoneAcceptedHasShapeWrong)

/-- 'zzlaws_graphql_b1.FnRunFirstIsFirstOwnerOfAnotherKey': WHATEVER THE INPUT: true; the input reads as it did. -/
def fnRunFirstIsFirstOwnerOfAnotherKeySpec : ChangeSpec := { name := "fnRunFirstIsFirstOwnerOfAnotherKey", fn := fun _ => fun
  | [d1, d2, d3] => { results := [.lit (.bool true)], args := [d1, d2, d3] }
  | _ => none }
def fnRunFirstIsFirstOwnerOfAnotherKeyRow : OpenClaim := { program := "qxb6000844a", sum := "9647ccb0d7406bf5aa4bb57ae7662bda142ceedfb1863be59165098b3447a802", func := "example.com/resolvent/resolvent/zzlaws_graphql_b1.FnRunFirstIsFirstOwnerOfAnotherKey", spec := "fnRunFirstIsFirstOwnerOfAnotherKey", apart := false }
def FnRunFirstIsFirstOwnerOfAnotherKeySaid : Prop := fnRunFirstIsFirstOwnerOfAnotherKeyRow.holds Try.pinned (OpenSpec.ofChange fnRunFirstIsFirstOwnerOfAnotherKeySpec)

/-- ITS FALSE NEIGHBOUR: 'it returns false'. Refute it at one input. -/
def fnRunFirstIsFirstOwnerOfAnotherKeyWrong : ChangeSpec := { name := "fnRunFirstIsFirstOwnerOfAnotherKey", fn := fun _ => fun
  | [d1, d2, d3] => { results := [.lit (.bool false)], args := [d1, d2, d3] }
  | _ => none }
def FnRunFirstIsFirstOwnerOfAnotherKeyWrongFalsely : Prop := fnRunFirstIsFirstOwnerOfAnotherKeyRow.holds Try.pinned (OpenSpec.ofChange fnRunFirstIsFirstOwnerOfAnotherKeyWrong)

/-- 'zzlaws_graphql_b1.FnRunFirstCacheKeepsAnswers': WHATEVER THE INPUT: true; the input reads as it did. -/
def fnRunFirstCacheKeepsAnswersSpec : ChangeSpec := { name := "fnRunFirstCacheKeepsAnswers", fn := fun _ => fun
  | [d1, d2, d3] => { results := [.lit (.bool true)], args := [d1, d2, d3] }
  | _ => none }
def fnRunFirstCacheKeepsAnswersRow : OpenClaim := { program := "qxb6000844a", sum := "9647ccb0d7406bf5aa4bb57ae7662bda142ceedfb1863be59165098b3447a802", func := "example.com/resolvent/resolvent/zzlaws_graphql_b1.FnRunFirstCacheKeepsAnswers", spec := "fnRunFirstCacheKeepsAnswers", apart := false }
def FnRunFirstCacheKeepsAnswersSaid : Prop := fnRunFirstCacheKeepsAnswersRow.holds Try.pinned (OpenSpec.ofChange fnRunFirstCacheKeepsAnswersSpec)

/-- ITS FALSE NEIGHBOUR: 'it returns false'. Refute it at one input. -/
def fnRunFirstCacheKeepsAnswersWrong : ChangeSpec := { name := "fnRunFirstCacheKeepsAnswers", fn := fun _ => fun
  | [d1, d2, d3] => { results := [.lit (.bool false)], args := [d1, d2, d3] }
  | _ => none }
def FnRunFirstCacheKeepsAnswersWrongFalsely : Prop := fnRunFirstCacheKeepsAnswersRow.holds Try.pinned (OpenSpec.ofChange fnRunFirstCacheKeepsAnswersWrong)

end Rows
end Go.Proofs.Qxb6000844a
