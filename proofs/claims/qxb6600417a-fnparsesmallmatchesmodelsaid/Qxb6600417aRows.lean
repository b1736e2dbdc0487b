/-
  No cell of these rows narrows 'for every input' (looked for: loops, veiled, ifaces, maps, wideKeys, modest, calm, conditions, laid).
  DERIVED. THE GIVEN ROWS OF THIS SEAT. 5 by the template 'for every input the law returns true; each argument reads behind the call as it read before'; 0 by the template 'total and deterministic' (their statements: Qxb6600417aTotals.lean).
  GIVEN WITH THE SEED: the statements are not yours to turn. If you find one false, say at which input.
  Laid BY PROGRAM, IN A SANDBOX (cutbox-rows.mjs): the forced cells as the released guide's own fill.sh prints them over the translation 950c0a36645e1fc8… (all of the seat's roots in one cut). By AI agents, Wed Nov 11 2026. No macro, syntax, notation, axiom, sorry.
-/
import Derived.Test.Qxb6600417aChecked
import GoSem.Claim
import GoSem.ClaimJoined
import GoSem.ClaimMapViews
import Derived.JoinedTies
import Derived.KernelRfl
namespace Go.Proofs.Qxb6600417a
/- THE CELL 'sum', in the pinned program and in every row, IS THE sha256 OF THE DUMP (.gsa) THAT Qxb6600417aProg.lean LOADS. Nothing in Lean hashes anything: it is a label: what it is worth is what the hold of that sum in a sandbox is worth. -/
noncomputable def Try.pinned : Pinned := { name := "qxb6600417a", sum := "950c0a36645e1fc8f1528537b95bd04fcc3c772669424d4ba4df025bde7eae54", checked := Try.checked }
namespace Rows
def none {H : Type} : Left H := { results := [], args := [] }

/-- 'zzlaws_internal_money_b1.FnParseSmallMatchesModel': WHATEVER THE INPUT: true; the input reads as it did. -/
def fnParseSmallMatchesModelSpec : ChangeSpec := { name := "fnParseSmallMatchesModel", fn := fun _ => fun
  | [d1, d2] => { results := [.lit (.bool true)], args := [d1, d2] }
  | _ => none }
def fnParseSmallMatchesModelRow : OpenClaim := { program := "qxb6600417a", sum := "950c0a36645e1fc8f1528537b95bd04fcc3c772669424d4ba4df025bde7eae54", func := "example.com/tracuu/tracuu/zzlaws_internal_money_b1.FnParseSmallMatchesModel", spec := "fnParseSmallMatchesModel", apart := false }
def FnParseSmallMatchesModelSaid : Prop := fnParseSmallMatchesModelRow.holds Try.pinned (OpenSpec.ofChange fnParseSmallMatchesModelSpec)

/-- ITS FALSE NEIGHBOUR: 'it returns false'. Refute it at one input. -/
def fnParseSmallMatchesModelWrong : ChangeSpec := { name := "fnParseSmallMatchesModel", fn := fun _ => fun
  | [d1, d2] => { results := [.lit (.bool false)], args := [d1, d2] }
  | _ => none }
def FnParseSmallMatchesModelWrongFalsely : Prop := fnParseSmallMatchesModelRow.holds Try.pinned (OpenSpec.ofChange fnParseSmallMatchesModelWrong)

/-- 'zzlaws_internal_money_b1.FnParseSmallReadsItsFormat': WHATEVER THE INPUT: true; the input reads as it did. -/
def fnParseSmallReadsItsFormatSpec : ChangeSpec := { name := "fnParseSmallReadsItsFormat", fn := fun _ => fun
  | [d1, d2, d3] => { results := [.lit (.bool true)], args := [d1, d2, d3] }
  | _ => none }
def fnParseSmallReadsItsFormatRow : OpenClaim := { program := "qxb6600417a", sum := "950c0a36645e1fc8f1528537b95bd04fcc3c772669424d4ba4df025bde7eae54", func := "example.com/tracuu/tracuu/zzlaws_internal_money_b1.FnParseSmallReadsItsFormat", spec := "fnParseSmallReadsItsFormat", apart := false }
def FnParseSmallReadsItsFormatSaid : Prop := fnParseSmallReadsItsFormatRow.holds Try.pinned (OpenSpec.ofChange fnParseSmallReadsItsFormatSpec)

/-- ITS FALSE NEIGHBOUR: 'it returns false'. Refute it at one input. -/
def fnParseSmallReadsItsFormatWrong : ChangeSpec := { name := "fnParseSmallReadsItsFormat", fn := fun _ => fun
  | [d1, d2, d3] => { results := [.lit (.bool false)], args := [d1, d2, d3] }
  | _ => none }
def FnParseSmallReadsItsFormatWrongFalsely : Prop := fnParseSmallReadsItsFormatRow.holds Try.pinned (OpenSpec.ofChange fnParseSmallReadsItsFormatWrong)

/-- 'zzlaws_internal_money_b1.FnParseSmallPlacesScaleByTen': WHATEVER THE INPUT: true; the input reads as it did. -/
def fnParseSmallPlacesScaleByTenSpec : ChangeSpec := { name := "fnParseSmallPlacesScaleByTen", fn := fun _ => fun
  | [d1, d2] => { results := [.lit (.bool true)], args := [d1, d2] }
  | _ => none }
def fnParseSmallPlacesScaleByTenRow : OpenClaim := { program := "qxb6600417a", sum := "950c0a36645e1fc8f1528537b95bd04fcc3c772669424d4ba4df025bde7eae54", func := "example.com/tracuu/tracuu/zzlaws_internal_money_b1.FnParseSmallPlacesScaleByTen", spec := "fnParseSmallPlacesScaleByTen", apart := false }
def FnParseSmallPlacesScaleByTenSaid : Prop := fnParseSmallPlacesScaleByTenRow.holds Try.pinned (OpenSpec.ofChange fnParseSmallPlacesScaleByTenSpec)

/-- ITS FALSE NEIGHBOUR: 'it returns false'. Refute it at one input. -/
def fnParseSmallPlacesScaleByTenWrong : ChangeSpec := { name := "fnParseSmallPlacesScaleByTen", fn := fun _ => fun
  | [d1, d2] => { results := [.lit (.bool false)], args := [d1, d2] }
  | _ => none }
def FnParseSmallPlacesScaleByTenWrongFalsely : Prop := fnParseSmallPlacesScaleByTenRow.holds Try.pinned (OpenSpec.ofChange fnParseSmallPlacesScaleByTenWrong)

/-- 'zzlaws_internal_money_b1.FnIsDigitsConcat': WHATEVER THE INPUT: true; the input reads as it did. -/
def fnIsDigitsConcatSpec : ChangeSpec := { name := "fnIsDigitsConcat", fn := fun _ => fun
  | [d1, d2] => { results := [.lit (.bool true)], args := [d1, d2] }
  | _ => none }
def fnIsDigitsConcatRow : OpenClaim := { program := "qxb6600417a", sum := "950c0a36645e1fc8f1528537b95bd04fcc3c772669424d4ba4df025bde7eae54", func := "example.com/tracuu/tracuu/zzlaws_internal_money_b1.FnIsDigitsConcat", spec := "fnIsDigitsConcat", apart := false }
def FnIsDigitsConcatSaid : Prop := fnIsDigitsConcatRow.holds Try.pinned (OpenSpec.ofChange fnIsDigitsConcatSpec)

/-- ITS FALSE NEIGHBOUR: 'it returns false'. Refute it at one input. -/
def fnIsDigitsConcatWrong : ChangeSpec := { name := "fnIsDigitsConcat", fn := fun _ => fun
  | [d1, d2] => { results := [.lit (.bool false)], args := [d1, d2] }
  | _ => none }
def FnIsDigitsConcatWrongFalsely : Prop := fnIsDigitsConcatRow.holds Try.pinned (OpenSpec.ofChange fnIsDigitsConcatWrong)

/-- 'zzlaws_internal_money_b1.FnIsDigitsAgreesWithParseSmall': WHATEVER THE INPUT: true; the input reads as it did. -/
def fnIsDigitsAgreesWithParseSmallSpec : ChangeSpec := { name := "fnIsDigitsAgreesWithParseSmall", fn := fun _ => fun
  | [d] => { results := [.lit (.bool true)], args := [d] }
  | _ => none }
def fnIsDigitsAgreesWithParseSmallRow : OpenClaim := { program := "qxb6600417a", sum := "950c0a36645e1fc8f1528537b95bd04fcc3c772669424d4ba4df025bde7eae54", func := "example.com/tracuu/tracuu/zzlaws_internal_money_b1.FnIsDigitsAgreesWithParseSmall", spec := "fnIsDigitsAgreesWithParseSmall", apart := false }
def FnIsDigitsAgreesWithParseSmallSaid : Prop := fnIsDigitsAgreesWithParseSmallRow.holds Try.pinned (OpenSpec.ofChange fnIsDigitsAgreesWithParseSmallSpec)

/-- ITS FALSE NEIGHBOUR: 'it returns false'. Refute it at one input. -/
def fnIsDigitsAgreesWithParseSmallWrong : ChangeSpec := { name := "fnIsDigitsAgreesWithParseSmall", fn := fun _ => fun
  | [d] => { results := [.lit (.bool false)], args := [d] }
  | _ => none }
def FnIsDigitsAgreesWithParseSmallWrongFalsely : Prop := fnIsDigitsAgreesWithParseSmallRow.holds Try.pinned (OpenSpec.ofChange fnIsDigitsAgreesWithParseSmallWrong)

end Rows
end Go.Proofs.Qxb6600417a
