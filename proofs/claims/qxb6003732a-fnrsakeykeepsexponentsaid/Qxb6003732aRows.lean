/-
  No cell of these rows narrows 'for every input' (looked for: loops, veiled, ifaces, maps, wideKeys, modest, calm, conditions, laid).
  DERIVED. THE GIVEN ROWS OF THIS SEAT. 4 by the template 'for every input the law returns true; each argument reads behind the call as it read before'; 0 by the template 'total and deterministic' (their statements: Qxb6003732aTotals.lean).
  GIVEN WITH THE SEED: the statements are not yours to turn. If you find one false, say at which input.
  Laid BY PROGRAM, IN A SANDBOX (cutbox-rows.mjs): the forced cells as the released guide's own fill.sh prints them over the translation aae1917cf57ac62c… (all of the seat's roots in one cut). By AI agents, Wed Nov 11 2026. No macro, syntax, notation, axiom, sorry.
-/
import Derived.Test.Qxb6003732aChecked
import GoSem.Claim
import GoSem.ClaimJoined
import GoSem.ClaimMapViews
import Derived.JoinedTies
import Derived.KernelRfl
namespace Go.Proofs.Qxb6003732a
/- THE CELL 'sum', in the pinned program and in every row, IS THE sha256 OF THE DUMP (.gsa) THAT Qxb6003732aProg.lean LOADS. Nothing in Lean hashes anything: it is a label: what it is worth is what the hold of that sum in a sandbox is worth. -/
noncomputable def Try.pinned : Pinned := { name := "qxb6003732a", sum := "aae1917cf57ac62c5286b2d87e95fe817ffffe7ffcfe1856a2978eed6f47f1f5", checked := Try.checked }
namespace Rows
def none {H : Type} : Left H := { results := [], args := [] }

/-- 'zzlaws_root_g1.FnTruncatedPrefixComposes': WHATEVER THE INPUT: true; the input reads as it did. -/
def fnTruncatedPrefixComposesSpec : ChangeSpec := { name := "fnTruncatedPrefixComposes", fn := fun _ => fun
  | [d1, d2, d3, d4] => { results := [.lit (.bool true)], args := [d1, d2, d3, d4] }
  | _ => none }
def fnTruncatedPrefixComposesRow : OpenClaim := { program := "qxb6003732a", sum := "aae1917cf57ac62c5286b2d87e95fe817ffffe7ffcfe1856a2978eed6f47f1f5", func := "example.com/originseal/originseal/zzlaws_root_g1.FnTruncatedPrefixComposes", spec := "fnTruncatedPrefixComposes", apart := false }
def FnTruncatedPrefixComposesSaid : Prop := fnTruncatedPrefixComposesRow.holds Try.pinned (OpenSpec.ofChange fnTruncatedPrefixComposesSpec)

/-- ITS FALSE NEIGHBOUR: 'it returns false'. Refute it at one input. -/
def fnTruncatedPrefixComposesWrong : ChangeSpec := { name := "fnTruncatedPrefixComposes", fn := fun _ => fun
  | [d1, d2, d3, d4] => { results := [.lit (.bool false)], args := [d1, d2, d3, d4] }
  | _ => none }
def FnTruncatedPrefixComposesWrongFalsely : Prop := fnTruncatedPrefixComposesRow.holds Try.pinned (OpenSpec.ofChange fnTruncatedPrefixComposesWrong)

/-- 'zzlaws_root_g1.FnExactAgreesWithTruncation': WHATEVER THE INPUT: true; the input reads as it did. -/
def fnExactAgreesWithTruncationSpec : ChangeSpec := { name := "fnExactAgreesWithTruncation", fn := fun _ => fun
  | [d1, d2, d3] => { results := [.lit (.bool true)], args := [d1, d2, d3] }
  | _ => none }
def fnExactAgreesWithTruncationRow : OpenClaim := { program := "qxb6003732a", sum := "aae1917cf57ac62c5286b2d87e95fe817ffffe7ffcfe1856a2978eed6f47f1f5", func := "example.com/originseal/originseal/zzlaws_root_g1.FnExactAgreesWithTruncation", spec := "fnExactAgreesWithTruncation", apart := false }
def FnExactAgreesWithTruncationSaid : Prop := fnExactAgreesWithTruncationRow.holds Try.pinned (OpenSpec.ofChange fnExactAgreesWithTruncationSpec)

/-- ITS FALSE NEIGHBOUR: 'it returns false'. Refute it at one input. -/
def fnExactAgreesWithTruncationWrong : ChangeSpec := { name := "fnExactAgreesWithTruncation", fn := fun _ => fun
  | [d1, d2, d3] => { results := [.lit (.bool false)], args := [d1, d2, d3] }
  | _ => none }
def FnExactAgreesWithTruncationWrongFalsely : Prop := fnExactAgreesWithTruncationRow.holds Try.pinned (OpenSpec.ofChange fnExactAgreesWithTruncationWrong)

/-- 'zzlaws_root_g1.FnReportValidConcat': WHATEVER THE INPUT: true; the input reads as it did. -/
def fnReportValidConcatSpec : ChangeSpec := { name := "fnReportValidConcat", fn := fun _ => fun
  | [d1, d2] => { results := [.lit (.bool true)], args := [d1, d2] }
  | _ => none }
def fnReportValidConcatRow : OpenClaim := { program := "qxb6003732a", sum := "aae1917cf57ac62c5286b2d87e95fe817ffffe7ffcfe1856a2978eed6f47f1f5", func := "example.com/originseal/originseal/zzlaws_root_g1.FnReportValidConcat", spec := "fnReportValidConcat", apart := false }
def FnReportValidConcatSaid : Prop := fnReportValidConcatRow.holds Try.pinned (OpenSpec.ofChange fnReportValidConcatSpec)

/-- ITS FALSE NEIGHBOUR: 'it returns false'. Refute it at one input. -/
def fnReportValidConcatWrong : ChangeSpec := { name := "fnReportValidConcat", fn := fun _ => fun
  | [d1, d2] => { results := [.lit (.bool false)], args := [d1, d2] }
  | _ => none }
def FnReportValidConcatWrongFalsely : Prop := fnReportValidConcatRow.holds Try.pinned (OpenSpec.ofChange fnReportValidConcatWrong)

/-- 'zzlaws_root_g2.FnRSAKeyKeepsExponent': WHATEVER THE INPUT: true; the input reads as it did. -/
def fnRSAKeyKeepsExponentSpec : ChangeSpec := { name := "fnRSAKeyKeepsExponent", fn := fun _ => fun
  | [d1, d2, d3, d4] => { results := [.lit (.bool true)], args := [d1, d2, d3, d4] }
  | _ => none }
def fnRSAKeyKeepsExponentRow : OpenClaim := { program := "qxb6003732a", sum := "aae1917cf57ac62c5286b2d87e95fe817ffffe7ffcfe1856a2978eed6f47f1f5", func := "example.com/originseal/originseal/zzlaws_root_g2.FnRSAKeyKeepsExponent", spec := "fnRSAKeyKeepsExponent", apart := false }
def FnRSAKeyKeepsExponentSaid : Prop := fnRSAKeyKeepsExponentRow.holds Try.pinned (OpenSpec.ofChange fnRSAKeyKeepsExponentSpec)

/-- ITS FALSE NEIGHBOUR: 'it returns false'. Refute it at one input. -/
def fnRSAKeyKeepsExponentWrong : ChangeSpec := { name := "fnRSAKeyKeepsExponent", fn := fun _ => fun
  | [d1, d2, d3, d4] => { results := [.lit (.bool false)], args := [d1, d2, d3, d4] }
  | _ => none }
def FnRSAKeyKeepsExponentWrongFalsely : Prop := fnRSAKeyKeepsExponentRow.holds Try.pinned (OpenSpec.ofChange fnRSAKeyKeepsExponentWrong)

end Rows
end Go.Proofs.Qxb6003732a
