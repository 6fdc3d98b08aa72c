/-
  No cell of these rows narrows 'for every input' (looked for: loops, veiled, ifaces, maps, wideKeys, modest, calm, conditions, laid).
  DERIVED. THE GIVEN ROWS OF THIS SEAT. 4 by the template 'for every input the law returns true; each argument reads behind the call as it read before'; 0 by the template 'total and deterministic' (their statements: Qxb6001598aTotals.lean).
  GIVEN WITH THE SEED: the statements are not yours to turn. If you find one false, say at which input.
  Laid BY PROGRAM, IN A SANDBOX (cutbox-rows.mjs): the forced cells as the released guide's own fill.sh prints them over the translation 6b4f8f60d6e2506c… (all of the seat's roots in one cut). By AI agents, Wed Nov 11 2026. No macro, syntax, notation, axiom, sorry.
-/
import Derived.Test.Qxb6001598aChecked
import GoSem.Claim
import GoSem.ClaimJoined
import GoSem.ClaimMapViews
import Derived.JoinedTies
import Derived.KernelRfl
namespace Go.Proofs.Qxb6001598a
/- THE CELL 'sum', in the pinned program and in every row, IS THE sha256 OF THE DUMP (.gsa) THAT Qxb6001598aProg.lean LOADS. Nothing in Lean hashes anything: it is a label: what it is worth is what the hold of that sum in a sandbox is worth. -/
noncomputable def Try.pinned : Pinned := { name := "qxb6001598a", sum := "6b4f8f60d6e2506c9772e8f7cdd231177a0cd03d70999c68b0933d94e4bfb637", checked := Try.checked }
namespace Rows
def none {H : Type} : Left H := { results := [], args := [] }

/-- 'zzlaws_pkg_strictjson_b1.FnStringEndFindsClosingQuote': WHATEVER THE INPUT: true; the input reads as it did. -/
def fnStringEndFindsClosingQuoteSpec : ChangeSpec := { name := "fnStringEndFindsClosingQuote", fn := fun _ => fun
  | [d1, d2, d3, d4] => { results := [.lit (.bool true)], args := [d1, d2, d3, d4] }
  | _ => none }
def fnStringEndFindsClosingQuoteRow : OpenClaim := { program := "qxb6001598a", sum := "6b4f8f60d6e2506c9772e8f7cdd231177a0cd03d70999c68b0933d94e4bfb637", func := "example.com/tuoguan/tuoguan/zzlaws_pkg_strictjson_b1.FnStringEndFindsClosingQuote", spec := "fnStringEndFindsClosingQuote", apart := false }
def FnStringEndFindsClosingQuoteSaid : Prop := fnStringEndFindsClosingQuoteRow.holds Try.pinned (OpenSpec.ofChange fnStringEndFindsClosingQuoteSpec)

/-- ITS FALSE NEIGHBOUR: 'it returns false'. Refute it at one input. -/
def fnStringEndFindsClosingQuoteWrong : ChangeSpec := { name := "fnStringEndFindsClosingQuote", fn := fun _ => fun
  | [d1, d2, d3, d4] => { results := [.lit (.bool false)], args := [d1, d2, d3, d4] }
  | _ => none }
def FnStringEndFindsClosingQuoteWrongFalsely : Prop := fnStringEndFindsClosingQuoteRow.holds Try.pinned (OpenSpec.ofChange fnStringEndFindsClosingQuoteWrong)

/-- 'zzlaws_pkg_strictjson_b1.FnNextPartSkipsSpaceAndOneComma': WHATEVER THE INPUT: true; the input reads as it did. -/
def fnNextPartSkipsSpaceAndOneCommaSpec : ChangeSpec := { name := "fnNextPartSkipsSpaceAndOneComma", fn := fun _ => fun
  | [d1, d2, d3, d4, d5, d6] => { results := [.lit (.bool true)], args := [d1, d2, d3, d4, d5, d6] }
  | _ => none }
def fnNextPartSkipsSpaceAndOneCommaRow : OpenClaim := { program := "qxb6001598a", sum := "6b4f8f60d6e2506c9772e8f7cdd231177a0cd03d70999c68b0933d94e4bfb637", func := "example.com/tuoguan/tuoguan/zzlaws_pkg_strictjson_b1.FnNextPartSkipsSpaceAndOneComma", spec := "fnNextPartSkipsSpaceAndOneComma", apart := false }
def FnNextPartSkipsSpaceAndOneCommaSaid : Prop := fnNextPartSkipsSpaceAndOneCommaRow.holds Try.pinned (OpenSpec.ofChange fnNextPartSkipsSpaceAndOneCommaSpec)

/-- ITS FALSE NEIGHBOUR: 'it returns false'. Refute it at one input. -/
def fnNextPartSkipsSpaceAndOneCommaWrong : ChangeSpec := { name := "fnNextPartSkipsSpaceAndOneComma", fn := fun _ => fun
  | [d1, d2, d3, d4, d5, d6] => { results := [.lit (.bool false)], args := [d1, d2, d3, d4, d5, d6] }
  | _ => none }
def FnNextPartSkipsSpaceAndOneCommaWrongFalsely : Prop := fnNextPartSkipsSpaceAndOneCommaRow.holds Try.pinned (OpenSpec.ofChange fnNextPartSkipsSpaceAndOneCommaWrong)

/-- 'zzlaws_pkg_strictjson_b1.FnValueEndFindsEndOfBuiltValue': WHATEVER THE INPUT: true; the input reads as it did. -/
def fnValueEndFindsEndOfBuiltValueSpec : ChangeSpec := { name := "fnValueEndFindsEndOfBuiltValue", fn := fun _ => fun
  | [d1, d2, d3, d4, d5] => { results := [.lit (.bool true)], args := [d1, d2, d3, d4, d5] }
  | _ => none }
def fnValueEndFindsEndOfBuiltValueRow : OpenClaim := { program := "qxb6001598a", sum := "6b4f8f60d6e2506c9772e8f7cdd231177a0cd03d70999c68b0933d94e4bfb637", func := "example.com/tuoguan/tuoguan/zzlaws_pkg_strictjson_b1.FnValueEndFindsEndOfBuiltValue", spec := "fnValueEndFindsEndOfBuiltValue", inPlace := ["internal/bytealg.IndexByteString"], apart := false }
def FnValueEndFindsEndOfBuiltValueSaid : Prop := fnValueEndFindsEndOfBuiltValueRow.holds Try.pinned (OpenSpec.ofChange fnValueEndFindsEndOfBuiltValueSpec)

/-- ITS FALSE NEIGHBOUR: 'it returns false'. Refute it at one input. -/
def fnValueEndFindsEndOfBuiltValueWrong : ChangeSpec := { name := "fnValueEndFindsEndOfBuiltValue", fn := fun _ => fun
  | [d1, d2, d3, d4, d5] => { results := [.lit (.bool false)], args := [d1, d2, d3, d4, d5] }
  | _ => none }
def FnValueEndFindsEndOfBuiltValueWrongFalsely : Prop := fnValueEndFindsEndOfBuiltValueRow.holds Try.pinned (OpenSpec.ofChange fnValueEndFindsEndOfBuiltValueWrong)

/-- 'zzlaws_pkg_strictjson_b1.FnArrayWalkVisitsEveryElement': WHATEVER THE INPUT: true; the input reads as it did. -/
def fnArrayWalkVisitsEveryElementSpec : ChangeSpec := { name := "fnArrayWalkVisitsEveryElement", fn := fun _ => fun
  | [d1, d2, d3, d4] => { results := [.lit (.bool true)], args := [d1, d2, d3, d4] }
  | _ => none }
def fnArrayWalkVisitsEveryElementRow : OpenClaim := { program := "qxb6001598a", sum := "6b4f8f60d6e2506c9772e8f7cdd231177a0cd03d70999c68b0933d94e4bfb637", func := "example.com/tuoguan/tuoguan/zzlaws_pkg_strictjson_b1.FnArrayWalkVisitsEveryElement", spec := "fnArrayWalkVisitsEveryElement", inPlace := ["internal/bytealg.IndexByteString"], apart := false }
def FnArrayWalkVisitsEveryElementSaid : Prop := fnArrayWalkVisitsEveryElementRow.holds Try.pinned (OpenSpec.ofChange fnArrayWalkVisitsEveryElementSpec)

/-- ITS FALSE NEIGHBOUR: 'it returns false'. Refute it at one input. -/
def fnArrayWalkVisitsEveryElementWrong : ChangeSpec := { name := "fnArrayWalkVisitsEveryElement", fn := fun _ => fun
  | [d1, d2, d3, d4] => { results := [.lit (.bool false)], args := [d1, d2, d3, d4] }
  | _ => none }
def FnArrayWalkVisitsEveryElementWrongFalsely : Prop := fnArrayWalkVisitsEveryElementRow.holds Try.pinned (OpenSpec.ofChange fnArrayWalkVisitsEveryElementWrong)

end Rows
end Go.Proofs.Qxb6001598a
