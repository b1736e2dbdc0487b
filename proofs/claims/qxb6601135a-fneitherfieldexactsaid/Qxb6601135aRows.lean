/-
  No cell of these rows narrows 'for every input' (looked for: loops, veiled, ifaces, maps, wideKeys, modest, calm, conditions, laid).
  DERIVED. THE GIVEN ROWS OF THIS SEAT. 6 by the template 'for every input the law returns true; each argument reads behind the call as it read before'; 0 by the template 'total and deterministic' (their statements: Qxb6601135aTotals.lean).
  GIVEN WITH THE SEED: the statements are not yours to turn. If you find one false, say at which input.
  Laid BY PROGRAM, IN A SANDBOX (cutbox-rows.mjs): the forced cells as the released guide's own fill.sh prints them over the translation 1ae3a5fad204f9cf… (all of the seat's roots in one cut). By AI agents, Wed Nov 11 2026. No macro, syntax, notation, axiom, sorry.
-/
import Derived.Test.Qxb6601135aChecked
import GoSem.Claim
import GoSem.ClaimJoined
import GoSem.ClaimMapViews
import Derived.JoinedTies
import Derived.KernelRfl
namespace Go.Proofs.Qxb6601135a
/- THE CELL 'sum', in the pinned program and in every row, IS THE sha256 OF THE DUMP (.gsa) THAT Qxb6601135aProg.lean LOADS. Nothing in Lean hashes anything: it is a label: what it is worth is what the hold of that sum in a sandbox is worth. -/
noncomputable def Try.pinned : Pinned := { name := "qxb6601135a", sum := "1ae3a5fad204f9cf565399e1e883e8aef3ae7adfda3af195e5b81b068b46c522", checked := Try.checked }
namespace Rows
def none {H : Type} : Left H := { results := [], args := [] }

/-- 'zzlaws_internal_deny_b1.FnQuoteMarkersExact': WHATEVER THE INPUT: true; the input reads as it did. -/
def fnQuoteMarkersExactSpec : ChangeSpec := { name := "fnQuoteMarkersExact", fn := fun _ => fun
  | [d] => { results := [.lit (.bool true)], args := [d] }
  | _ => none }
def fnQuoteMarkersExactRow : OpenClaim := { program := "qxb6601135a", sum := "1ae3a5fad204f9cf565399e1e883e8aef3ae7adfda3af195e5b81b068b46c522", func := "example.com/mora/mora/zzlaws_internal_deny_b1.FnQuoteMarkersExact", spec := "fnQuoteMarkersExact", apart := false }
def FnQuoteMarkersExactSaid : Prop := fnQuoteMarkersExactRow.holds Try.pinned (OpenSpec.ofChange fnQuoteMarkersExactSpec)

/-- ITS FALSE NEIGHBOUR: 'it returns false'. Refute it at one input. -/
def fnQuoteMarkersExactWrong : ChangeSpec := { name := "fnQuoteMarkersExact", fn := fun _ => fun
  | [d] => { results := [.lit (.bool false)], args := [d] }
  | _ => none }
def FnQuoteMarkersExactWrongFalsely : Prop := fnQuoteMarkersExactRow.holds Try.pinned (OpenSpec.ofChange fnQuoteMarkersExactWrong)

/-- 'zzlaws_internal_deny_b1.FnQuoteMarkersJoinIsCommon': WHATEVER THE INPUT: true; the input reads as it did. -/
def fnQuoteMarkersJoinIsCommonSpec : ChangeSpec := { name := "fnQuoteMarkersJoinIsCommon", fn := fun _ => fun
  | [d1, d2] => { results := [.lit (.bool true)], args := [d1, d2] }
  | _ => none }
def fnQuoteMarkersJoinIsCommonRow : OpenClaim := { program := "qxb6601135a", sum := "1ae3a5fad204f9cf565399e1e883e8aef3ae7adfda3af195e5b81b068b46c522", func := "example.com/mora/mora/zzlaws_internal_deny_b1.FnQuoteMarkersJoinIsCommon", spec := "fnQuoteMarkersJoinIsCommon", apart := false }
def FnQuoteMarkersJoinIsCommonSaid : Prop := fnQuoteMarkersJoinIsCommonRow.holds Try.pinned (OpenSpec.ofChange fnQuoteMarkersJoinIsCommonSpec)

/-- ITS FALSE NEIGHBOUR: 'it returns false'. Refute it at one input. -/
def fnQuoteMarkersJoinIsCommonWrong : ChangeSpec := { name := "fnQuoteMarkersJoinIsCommon", fn := fun _ => fun
  | [d1, d2] => { results := [.lit (.bool false)], args := [d1, d2] }
  | _ => none }
def FnQuoteMarkersJoinIsCommonWrongFalsely : Prop := fnQuoteMarkersJoinIsCommonRow.holds Try.pinned (OpenSpec.ofChange fnQuoteMarkersJoinIsCommonWrong)

/-- 'zzlaws_internal_deny_b1.FnQuoteMarkersUsedUp': WHATEVER THE INPUT: true; the input reads as it did. -/
def fnQuoteMarkersUsedUpSpec : ChangeSpec := { name := "fnQuoteMarkersUsedUp", fn := fun _ => fun
  | [d] => { results := [.lit (.bool true)], args := [d] }
  | _ => none }
def fnQuoteMarkersUsedUpRow : OpenClaim := { program := "qxb6601135a", sum := "1ae3a5fad204f9cf565399e1e883e8aef3ae7adfda3af195e5b81b068b46c522", func := "example.com/mora/mora/zzlaws_internal_deny_b1.FnQuoteMarkersUsedUp", spec := "fnQuoteMarkersUsedUp", apart := false }
def FnQuoteMarkersUsedUpSaid : Prop := fnQuoteMarkersUsedUpRow.holds Try.pinned (OpenSpec.ofChange fnQuoteMarkersUsedUpSpec)

/-- ITS FALSE NEIGHBOUR: 'it returns false'. Refute it at one input. -/
def fnQuoteMarkersUsedUpWrong : ChangeSpec := { name := "fnQuoteMarkersUsedUp", fn := fun _ => fun
  | [d] => { results := [.lit (.bool false)], args := [d] }
  | _ => none }
def FnQuoteMarkersUsedUpWrongFalsely : Prop := fnQuoteMarkersUsedUpRow.holds Try.pinned (OpenSpec.ofChange fnQuoteMarkersUsedUpWrong)

/-- 'zzlaws_internal_deny_b1.FnPeerProgramOptionNamesItself': WHATEVER THE INPUT: true; the input reads as it did. -/
def fnPeerProgramOptionNamesItselfSpec : ChangeSpec := { name := "fnPeerProgramOptionNamesItself", fn := fun _ => fun
  | [d] => { results := [.lit (.bool true)], args := [d] }
  | _ => none }
def fnPeerProgramOptionNamesItselfRow : OpenClaim := { program := "qxb6601135a", sum := "1ae3a5fad204f9cf565399e1e883e8aef3ae7adfda3af195e5b81b068b46c522", func := "example.com/mora/mora/zzlaws_internal_deny_b1.FnPeerProgramOptionNamesItself", spec := "fnPeerProgramOptionNamesItself", inPlace := ["internal/bytealg.IndexByteString", "internal/bytealg.IndexString"], named := ["internal/bytealg.MaxLen"], apart := false }
def FnPeerProgramOptionNamesItselfSaid : Prop := fnPeerProgramOptionNamesItselfRow.holds Try.pinned (OpenSpec.ofChange fnPeerProgramOptionNamesItselfSpec)

/-- ITS FALSE NEIGHBOUR: 'it returns false'. Refute it at one input. -/
def fnPeerProgramOptionNamesItselfWrong : ChangeSpec := { name := "fnPeerProgramOptionNamesItself", fn := fun _ => fun
  | [d] => { results := [.lit (.bool false)], args := [d] }
  | _ => none }
def FnPeerProgramOptionNamesItselfWrongFalsely : Prop := fnPeerProgramOptionNamesItselfRow.holds Try.pinned (OpenSpec.ofChange fnPeerProgramOptionNamesItselfWrong)

/-- 'zzlaws_internal_deny_b1.FnEitherFieldExact': WHATEVER THE INPUT: true; the input reads as it did. -/
def fnEitherFieldExactSpec : ChangeSpec := { name := "fnEitherFieldExact", fn := fun _ => fun
  | [d1, d2, d3, d4, d5] => { results := [.lit (.bool true)], args := [d1, d2, d3, d4, d5] }
  | _ => none }
def fnEitherFieldExactRow : OpenClaim := { program := "qxb6601135a", sum := "1ae3a5fad204f9cf565399e1e883e8aef3ae7adfda3af195e5b81b068b46c522", func := "example.com/mora/mora/zzlaws_internal_deny_b1.FnEitherFieldExact", spec := "fnEitherFieldExact", apart := false }
def FnEitherFieldExactSaid : Prop := fnEitherFieldExactRow.holds Try.pinned (OpenSpec.ofChange fnEitherFieldExactSpec)

/-- ITS FALSE NEIGHBOUR: 'it returns false'. Refute it at one input. -/
def fnEitherFieldExactWrong : ChangeSpec := { name := "fnEitherFieldExact", fn := fun _ => fun
  | [d1, d2, d3, d4, d5] => { results := [.lit (.bool false)], args := [d1, d2, d3, d4, d5] }
  | _ => none }
def FnEitherFieldExactWrongFalsely : Prop := fnEitherFieldExactRow.holds Try.pinned (OpenSpec.ofChange fnEitherFieldExactWrong)

/-- 'zzlaws_internal_deny_b1.FnEitherFieldKeepsBoth': WHATEVER THE INPUT: true; the input reads as it did. -/
def fnEitherFieldKeepsBothSpec : ChangeSpec := { name := "fnEitherFieldKeepsBoth", fn := fun _ => fun
  | [d1, d2, d3, d4, d5] => { results := [.lit (.bool true)], args := [d1, d2, d3, d4, d5] }
  | _ => none }
def fnEitherFieldKeepsBothRow : OpenClaim := { program := "qxb6601135a", sum := "1ae3a5fad204f9cf565399e1e883e8aef3ae7adfda3af195e5b81b068b46c522", func := "example.com/mora/mora/zzlaws_internal_deny_b1.FnEitherFieldKeepsBoth", spec := "fnEitherFieldKeepsBoth", apart := false }
def FnEitherFieldKeepsBothSaid : Prop := fnEitherFieldKeepsBothRow.holds Try.pinned (OpenSpec.ofChange fnEitherFieldKeepsBothSpec)

/-- ITS FALSE NEIGHBOUR: 'it returns false'. Refute it at one input. -/
def fnEitherFieldKeepsBothWrong : ChangeSpec := { name := "fnEitherFieldKeepsBoth", fn := fun _ => fun
  | [d1, d2, d3, d4, d5] => { results := [.lit (.bool false)], args := [d1, d2, d3, d4, d5] }
  | _ => none }
def FnEitherFieldKeepsBothWrongFalsely : Prop := fnEitherFieldKeepsBothRow.holds Try.pinned (OpenSpec.ofChange fnEitherFieldKeepsBothWrong)

end Rows
end Go.Proofs.Qxb6601135a
