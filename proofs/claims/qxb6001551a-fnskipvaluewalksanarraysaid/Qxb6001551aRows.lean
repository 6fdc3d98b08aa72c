/-
  No cell of these rows narrows 'for every input' (looked for: loops, veiled, ifaces, maps, wideKeys, modest, calm, conditions, laid).
  DERIVED. THE GIVEN ROWS OF THIS SEAT. 4 by the template 'for every input the law returns true; each argument reads behind the call as it read before'; 0 by the template 'total and deterministic' (their statements: Qxb6001551aTotals.lean).
  GIVEN WITH THE SEED: the statements are not yours to turn. If you find one false, say at which input.
  Laid BY PROGRAM, IN A SANDBOX (cutbox-rows.mjs): the forced cells as the released guide's own fill.sh prints them over the translation 94ac53c8152791bd… (all of the seat's roots in one cut). By AI agents, Wed Nov 11 2026. No macro, syntax, notation, axiom, sorry.
-/
import Derived.Test.Qxb6001551aChecked
import GoSem.Claim
import GoSem.ClaimJoined
import GoSem.ClaimMapViews
import Derived.JoinedTies
import Derived.KernelRfl
namespace Go.Proofs.Qxb6001551a
/- THE CELL 'sum', in the pinned program and in every row, IS THE sha256 OF THE DUMP (.gsa) THAT Qxb6001551aProg.lean LOADS. Nothing in Lean hashes anything: it is a label: what it is worth is what the hold of that sum in a sandbox is worth. -/
noncomputable def Try.pinned : Pinned := { name := "qxb6001551a", sum := "94ac53c8152791bdd70ae205be18691e3152267097879fc4c8a64ce578a62ff7", checked := Try.checked }
namespace Rows
def none {H : Type} : Left H := { results := [], args := [] }

/-- 'zzlaws_jsonobject_b1.FnSkipStringEndsEncodedText': WHATEVER THE INPUT: true; the input reads as it did. -/
def fnSkipStringEndsEncodedTextSpec : ChangeSpec := { name := "fnSkipStringEndsEncodedText", fn := fun _ => fun
  | [d1, d2, d3] => { results := [.lit (.bool true)], args := [d1, d2, d3] }
  | _ => none }
def fnSkipStringEndsEncodedTextRow : OpenClaim := { program := "qxb6001551a", sum := "94ac53c8152791bdd70ae205be18691e3152267097879fc4c8a64ce578a62ff7", func := "example.com/grantd/grantd/zzlaws_jsonobject_b1.FnSkipStringEndsEncodedText", spec := "fnSkipStringEndsEncodedText", inPlace := ["internal/bytealg.IndexByteString"], apart := false }
def FnSkipStringEndsEncodedTextSaid : Prop := fnSkipStringEndsEncodedTextRow.holds Try.pinned (OpenSpec.ofChange fnSkipStringEndsEncodedTextSpec)

/-- ITS FALSE NEIGHBOUR: 'it returns false'. Refute it at one input. -/
def fnSkipStringEndsEncodedTextWrong : ChangeSpec := { name := "fnSkipStringEndsEncodedText", fn := fun _ => fun
  | [d1, d2, d3] => { results := [.lit (.bool false)], args := [d1, d2, d3] }
  | _ => none }
def FnSkipStringEndsEncodedTextWrongFalsely : Prop := fnSkipStringEndsEncodedTextRow.holds Try.pinned (OpenSpec.ofChange fnSkipStringEndsEncodedTextWrong)

/-- 'zzlaws_jsonobject_b1.FnSkipValueFindsEndOfBuiltValue': WHATEVER THE INPUT: true; the input reads as it did. -/
def fnSkipValueFindsEndOfBuiltValueSpec : ChangeSpec := { name := "fnSkipValueFindsEndOfBuiltValue", fn := fun _ => fun
  | [d1, d2, d3, d4] => { results := [.lit (.bool true)], args := [d1, d2, d3, d4] }
  | _ => none }
def fnSkipValueFindsEndOfBuiltValueRow : OpenClaim := { program := "qxb6001551a", sum := "94ac53c8152791bdd70ae205be18691e3152267097879fc4c8a64ce578a62ff7", func := "example.com/grantd/grantd/zzlaws_jsonobject_b1.FnSkipValueFindsEndOfBuiltValue", spec := "fnSkipValueFindsEndOfBuiltValue", inPlace := ["internal/bytealg.IndexByteString"], apart := false }
def FnSkipValueFindsEndOfBuiltValueSaid : Prop := fnSkipValueFindsEndOfBuiltValueRow.holds Try.pinned (OpenSpec.ofChange fnSkipValueFindsEndOfBuiltValueSpec)

/-- ITS FALSE NEIGHBOUR: 'it returns false'. Refute it at one input. -/
def fnSkipValueFindsEndOfBuiltValueWrong : ChangeSpec := { name := "fnSkipValueFindsEndOfBuiltValue", fn := fun _ => fun
  | [d1, d2, d3, d4] => { results := [.lit (.bool false)], args := [d1, d2, d3, d4] }
  | _ => none }
def FnSkipValueFindsEndOfBuiltValueWrongFalsely : Prop := fnSkipValueFindsEndOfBuiltValueRow.holds Try.pinned (OpenSpec.ofChange fnSkipValueFindsEndOfBuiltValueWrong)

/-- 'zzlaws_jsonobject_b1.FnSkipValueWalksAnArray': WHATEVER THE INPUT: true; the input reads as it did. -/
def fnSkipValueWalksAnArraySpec : ChangeSpec := { name := "fnSkipValueWalksAnArray", fn := fun _ => fun
  | [d1, d2, d3] => { results := [.lit (.bool true)], args := [d1, d2, d3] }
  | _ => none }
def fnSkipValueWalksAnArrayRow : OpenClaim := { program := "qxb6001551a", sum := "94ac53c8152791bdd70ae205be18691e3152267097879fc4c8a64ce578a62ff7", func := "example.com/grantd/grantd/zzlaws_jsonobject_b1.FnSkipValueWalksAnArray", spec := "fnSkipValueWalksAnArray", inPlace := ["internal/bytealg.IndexByteString"], apart := false }
def FnSkipValueWalksAnArraySaid : Prop := fnSkipValueWalksAnArrayRow.holds Try.pinned (OpenSpec.ofChange fnSkipValueWalksAnArraySpec)

/-- ITS FALSE NEIGHBOUR: 'it returns false'. Refute it at one input. -/
def fnSkipValueWalksAnArrayWrong : ChangeSpec := { name := "fnSkipValueWalksAnArray", fn := fun _ => fun
  | [d1, d2, d3] => { results := [.lit (.bool false)], args := [d1, d2, d3] }
  | _ => none }
def FnSkipValueWalksAnArrayWrongFalsely : Prop := fnSkipValueWalksAnArrayRow.holds Try.pinned (OpenSpec.ofChange fnSkipValueWalksAnArrayWrong)

/-- 'zzlaws_jsonobject_b1.FnDescribeNamesTheBuiltKind': WHATEVER THE INPUT: true; the input reads as it did. -/
def fnDescribeNamesTheBuiltKindSpec : ChangeSpec := { name := "fnDescribeNamesTheBuiltKind", fn := fun _ => fun
  | [d1, d2] => { results := [.lit (.bool true)], args := [d1, d2] }
  | _ => none }
def fnDescribeNamesTheBuiltKindRow : OpenClaim := { program := "qxb6001551a", sum := "94ac53c8152791bdd70ae205be18691e3152267097879fc4c8a64ce578a62ff7", func := "example.com/grantd/grantd/zzlaws_jsonobject_b1.FnDescribeNamesTheBuiltKind", spec := "fnDescribeNamesTheBuiltKind", apart := false }
def FnDescribeNamesTheBuiltKindSaid : Prop := fnDescribeNamesTheBuiltKindRow.holds Try.pinned (OpenSpec.ofChange fnDescribeNamesTheBuiltKindSpec)

/-- ITS FALSE NEIGHBOUR: 'it returns false'. Refute it at one input. -/
def fnDescribeNamesTheBuiltKindWrong : ChangeSpec := { name := "fnDescribeNamesTheBuiltKind", fn := fun _ => fun
  | [d1, d2] => { results := [.lit (.bool false)], args := [d1, d2] }
  | _ => none }
def FnDescribeNamesTheBuiltKindWrongFalsely : Prop := fnDescribeNamesTheBuiltKindRow.holds Try.pinned (OpenSpec.ofChange fnDescribeNamesTheBuiltKindWrong)

end Rows
end Go.Proofs.Qxb6001551a
