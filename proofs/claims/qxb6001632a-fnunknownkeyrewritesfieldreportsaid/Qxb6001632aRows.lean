/-
  No cell of these rows narrows 'for every input' (looked for: loops, veiled, ifaces, maps, wideKeys, modest, calm, conditions, laid).
  DERIVED. THE GIVEN ROWS OF THIS SEAT. 3 by the template 'for every input the law returns true; each argument reads behind the call as it read before'; 0 by the template 'total and deterministic' (their statements: Qxb6001632aTotals.lean).
  GIVEN WITH THE SEED: the statements are not yours to turn. If you find one false, say at which input.
  Laid BY PROGRAM, IN A SANDBOX (cutbox-rows.mjs): the forced cells as the released guide's own fill.sh prints them over the translation 9232fd5321cf29e4… (all of the seat's roots in one cut). By AI agents, Wed Nov 11 2026. No macro, syntax, notation, axiom, sorry.
-/
import Derived.Test.Qxb6001632aChecked
import GoSem.Claim
import GoSem.ClaimJoined
import GoSem.ClaimMapViews
import Derived.JoinedTies
import Derived.KernelRfl
namespace Go.Proofs.Qxb6001632a
/- THE CELL 'sum', in the pinned program and in every row, IS THE sha256 OF THE DUMP (.gsa) THAT Qxb6001632aProg.lean LOADS. Nothing in Lean hashes anything: it is a label: what it is worth is what the hold of that sum in a sandbox is worth. -/
noncomputable def Try.pinned : Pinned := { name := "qxb6001632a", sum := "9232fd5321cf29e45ab010e75e0221eca4db6748b08e2d01fc1de6fa84c3247e", checked := Try.checked }
namespace Rows
def none {H : Type} : Left H := { results := [], args := [] }

/-- 'zzlaws_internal_yamlfile_b1.FnUnknownKeyRewritesFieldReport': WHATEVER THE INPUT: true; the input reads as it did. -/
def fnUnknownKeyRewritesFieldReportSpec : ChangeSpec := { name := "fnUnknownKeyRewritesFieldReport", fn := fun _ => fun
  | [d1, d2, d3] => { results := [.lit (.bool true)], args := [d1, d2, d3] }
  | _ => none }
def fnUnknownKeyRewritesFieldReportRow : OpenClaim := { program := "qxb6001632a", sum := "9232fd5321cf29e45ab010e75e0221eca4db6748b08e2d01fc1de6fa84c3247e", func := "example.com/baton-stack/baton-stack/zzlaws_internal_yamlfile_b1.FnUnknownKeyRewritesFieldReport", spec := "fnUnknownKeyRewritesFieldReport", inPlace := ["internal/bytealg.IndexByteString", "internal/bytealg.IndexString"], named := ["internal/bytealg.MaxLen"], apart := false }
def FnUnknownKeyRewritesFieldReportSaid : Prop := fnUnknownKeyRewritesFieldReportRow.holds Try.pinned (OpenSpec.ofChange fnUnknownKeyRewritesFieldReportSpec)

/-- ITS FALSE NEIGHBOUR: 'it returns false'. Refute it at one input. -/
def fnUnknownKeyRewritesFieldReportWrong : ChangeSpec := { name := "fnUnknownKeyRewritesFieldReport", fn := fun _ => fun
  | [d1, d2, d3] => { results := [.lit (.bool false)], args := [d1, d2, d3] }
  | _ => none }
def FnUnknownKeyRewritesFieldReportWrongFalsely : Prop := fnUnknownKeyRewritesFieldReportRow.holds Try.pinned (OpenSpec.ofChange fnUnknownKeyRewritesFieldReportWrong)

/-- 'zzlaws_internal_yamlfile_b1.FnUnknownKeyLeavesOtherReports': WHATEVER THE INPUT: true; the input reads as it did. -/
def fnUnknownKeyLeavesOtherReportsSpec : ChangeSpec := { name := "fnUnknownKeyLeavesOtherReports", fn := fun _ => fun
  | [d] => { results := [.lit (.bool true)], args := [d] }
  | _ => none }
def fnUnknownKeyLeavesOtherReportsRow : OpenClaim := { program := "qxb6001632a", sum := "9232fd5321cf29e45ab010e75e0221eca4db6748b08e2d01fc1de6fa84c3247e", func := "example.com/baton-stack/baton-stack/zzlaws_internal_yamlfile_b1.FnUnknownKeyLeavesOtherReports", spec := "fnUnknownKeyLeavesOtherReports", inPlace := ["internal/bytealg.IndexByteString", "internal/bytealg.IndexString"], named := ["internal/bytealg.MaxLen"], apart := false }
def FnUnknownKeyLeavesOtherReportsSaid : Prop := fnUnknownKeyLeavesOtherReportsRow.holds Try.pinned (OpenSpec.ofChange fnUnknownKeyLeavesOtherReportsSpec)

/-- ITS FALSE NEIGHBOUR: 'it returns false'. Refute it at one input. -/
def fnUnknownKeyLeavesOtherReportsWrong : ChangeSpec := { name := "fnUnknownKeyLeavesOtherReports", fn := fun _ => fun
  | [d] => { results := [.lit (.bool false)], args := [d] }
  | _ => none }
def FnUnknownKeyLeavesOtherReportsWrongFalsely : Prop := fnUnknownKeyLeavesOtherReportsRow.holds Try.pinned (OpenSpec.ofChange fnUnknownKeyLeavesOtherReportsWrong)

/-- 'zzlaws_internal_yamlfile_b1.FnUnknownKeyIdempotent': WHATEVER THE INPUT: true; the input reads as it did. -/
def fnUnknownKeyIdempotentSpec : ChangeSpec := { name := "fnUnknownKeyIdempotent", fn := fun _ => fun
  | [d] => { results := [.lit (.bool true)], args := [d] }
  | _ => none }
def fnUnknownKeyIdempotentRow : OpenClaim := { program := "qxb6001632a", sum := "9232fd5321cf29e45ab010e75e0221eca4db6748b08e2d01fc1de6fa84c3247e", func := "example.com/baton-stack/baton-stack/zzlaws_internal_yamlfile_b1.FnUnknownKeyIdempotent", spec := "fnUnknownKeyIdempotent", inPlace := ["internal/bytealg.IndexByteString", "internal/bytealg.IndexString"], named := ["internal/bytealg.MaxLen"], apart := false }
def FnUnknownKeyIdempotentSaid : Prop := fnUnknownKeyIdempotentRow.holds Try.pinned (OpenSpec.ofChange fnUnknownKeyIdempotentSpec)

/-- ITS FALSE NEIGHBOUR: 'it returns false'. Refute it at one input. -/
def fnUnknownKeyIdempotentWrong : ChangeSpec := { name := "fnUnknownKeyIdempotent", fn := fun _ => fun
  | [d] => { results := [.lit (.bool false)], args := [d] }
  | _ => none }
def FnUnknownKeyIdempotentWrongFalsely : Prop := fnUnknownKeyIdempotentRow.holds Try.pinned (OpenSpec.ofChange fnUnknownKeyIdempotentWrong)

end Rows
end Go.Proofs.Qxb6001632a
