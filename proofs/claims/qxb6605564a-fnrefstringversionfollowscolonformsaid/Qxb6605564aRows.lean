/-
  No cell of these rows narrows 'for every input' (looked for: loops, veiled, ifaces, maps, wideKeys, modest, calm, conditions, laid).
  DERIVED. THE GIVEN ROWS OF THIS SEAT. 4 by the template 'for every input the law returns true; each argument reads behind the call as it read before'; 0 by the template 'total and deterministic' (their statements: Qxb6605564aTotals.lean).
  GIVEN WITH THE SEED: the statements are not yours to turn. If you find one false, say at which input.
  Laid BY PROGRAM, IN A SANDBOX (cutbox-rows.mjs): the forced cells as the released guide's own fill.sh prints them over the translation 6b90d754f1bdfbc8… (all of the seat's roots in one cut). By AI agents, Wed Nov 11 2026. No macro, syntax, notation, axiom, sorry.
-/
import Derived.Test.Qxb6605564aChecked
import GoSem.Claim
import GoSem.ClaimJoined
import GoSem.ClaimMapViews
import Derived.JoinedTies
import Derived.KernelRfl
namespace Go.Proofs.Qxb6605564a
/- THE CELL 'sum', in the pinned program and in every row, IS THE sha256 OF THE DUMP (.gsa) THAT Qxb6605564aProg.lean LOADS. Nothing in Lean hashes anything: it is a label: what it is worth is what the hold of that sum in a sandbox is worth. -/
noncomputable def Try.pinned : Pinned := { name := "qxb6605564a", sum := "6b90d754f1bdfbc8d805fc37c0308d1230ccd46a16d95f0a6d63194e1cbad607", checked := Try.checked }
namespace Rows
def none {H : Type} : Left H := { results := [], args := [] }

/-- 'zzlaws_internal_registry_b1.FnParseRefSplitsAtFirstColon': WHATEVER THE INPUT: true; the input reads as it did. -/
def fnParseRefSplitsAtFirstColonSpec : ChangeSpec := { name := "fnParseRefSplitsAtFirstColon", fn := fun _ => fun
  | [d] => { results := [.lit (.bool true)], args := [d] }
  | _ => none }
def fnParseRefSplitsAtFirstColonRow : OpenClaim := { program := "qxb6605564a", sum := "6b90d754f1bdfbc8d805fc37c0308d1230ccd46a16d95f0a6d63194e1cbad607", func := "example.com/outfitter/outfitter/zzlaws_internal_registry_b1.FnParseRefSplitsAtFirstColon", spec := "fnParseRefSplitsAtFirstColon", inPlace := ["internal/bytealg.IndexByteString", "internal/bytealg.IndexString"], named := ["internal/bytealg.MaxLen"], apart := false }
def FnParseRefSplitsAtFirstColonSaid : Prop := fnParseRefSplitsAtFirstColonRow.holds Try.pinned (OpenSpec.ofChange fnParseRefSplitsAtFirstColonSpec)

/-- ITS FALSE NEIGHBOUR: 'it returns false'. Refute it at one input. -/
def fnParseRefSplitsAtFirstColonWrong : ChangeSpec := { name := "fnParseRefSplitsAtFirstColon", fn := fun _ => fun
  | [d] => { results := [.lit (.bool false)], args := [d] }
  | _ => none }
def FnParseRefSplitsAtFirstColonWrongFalsely : Prop := fnParseRefSplitsAtFirstColonRow.holds Try.pinned (OpenSpec.ofChange fnParseRefSplitsAtFirstColonWrong)

/-- 'zzlaws_internal_registry_b1.FnRefStringInvertsParseRef': WHATEVER THE INPUT: true; the input reads as it did. -/
def fnRefStringInvertsParseRefSpec : ChangeSpec := { name := "fnRefStringInvertsParseRef", fn := fun _ => fun
  | [d] => { results := [.lit (.bool true)], args := [d] }
  | _ => none }
def fnRefStringInvertsParseRefRow : OpenClaim := { program := "qxb6605564a", sum := "6b90d754f1bdfbc8d805fc37c0308d1230ccd46a16d95f0a6d63194e1cbad607", func := "example.com/outfitter/outfitter/zzlaws_internal_registry_b1.FnRefStringInvertsParseRef", spec := "fnRefStringInvertsParseRef", inPlace := ["internal/bytealg.IndexByteString", "internal/bytealg.IndexString"], named := ["internal/bytealg.MaxLen"], apart := false }
def FnRefStringInvertsParseRefSaid : Prop := fnRefStringInvertsParseRefRow.holds Try.pinned (OpenSpec.ofChange fnRefStringInvertsParseRefSpec)

/-- ITS FALSE NEIGHBOUR: 'it returns false'. Refute it at one input. -/
def fnRefStringInvertsParseRefWrong : ChangeSpec := { name := "fnRefStringInvertsParseRef", fn := fun _ => fun
  | [d] => { results := [.lit (.bool false)], args := [d] }
  | _ => none }
def FnRefStringInvertsParseRefWrongFalsely : Prop := fnRefStringInvertsParseRefRow.holds Try.pinned (OpenSpec.ofChange fnRefStringInvertsParseRefWrong)

/-- 'zzlaws_internal_registry_b1.FnParseRefInvertsRefString': WHATEVER THE INPUT: true; the input reads as it did. -/
def fnParseRefInvertsRefStringSpec : ChangeSpec := { name := "fnParseRefInvertsRefString", fn := fun _ => fun
  | [d1, d2, d3] => { results := [.lit (.bool true)], args := [d1, d2, d3] }
  | _ => none }
def fnParseRefInvertsRefStringRow : OpenClaim := { program := "qxb6605564a", sum := "6b90d754f1bdfbc8d805fc37c0308d1230ccd46a16d95f0a6d63194e1cbad607", func := "example.com/outfitter/outfitter/zzlaws_internal_registry_b1.FnParseRefInvertsRefString", spec := "fnParseRefInvertsRefString", inPlace := ["internal/bytealg.IndexByteString", "internal/bytealg.IndexString"], named := ["internal/bytealg.MaxLen"], apart := false }
def FnParseRefInvertsRefStringSaid : Prop := fnParseRefInvertsRefStringRow.holds Try.pinned (OpenSpec.ofChange fnParseRefInvertsRefStringSpec)

/-- ITS FALSE NEIGHBOUR: 'it returns false'. Refute it at one input. -/
def fnParseRefInvertsRefStringWrong : ChangeSpec := { name := "fnParseRefInvertsRefString", fn := fun _ => fun
  | [d1, d2, d3] => { results := [.lit (.bool false)], args := [d1, d2, d3] }
  | _ => none }
def FnParseRefInvertsRefStringWrongFalsely : Prop := fnParseRefInvertsRefStringRow.holds Try.pinned (OpenSpec.ofChange fnParseRefInvertsRefStringWrong)

/-- 'zzlaws_internal_registry_b1.FnRefStringVersionFollowsColonForm': WHATEVER THE INPUT: true; the input reads as it did. -/
def fnRefStringVersionFollowsColonFormSpec : ChangeSpec := { name := "fnRefStringVersionFollowsColonForm", fn := fun _ => fun
  | [d1, d2] => { results := [.lit (.bool true)], args := [d1, d2] }
  | _ => none }
def fnRefStringVersionFollowsColonFormRow : OpenClaim := { program := "qxb6605564a", sum := "6b90d754f1bdfbc8d805fc37c0308d1230ccd46a16d95f0a6d63194e1cbad607", func := "example.com/outfitter/outfitter/zzlaws_internal_registry_b1.FnRefStringVersionFollowsColonForm", spec := "fnRefStringVersionFollowsColonForm", apart := false }
def FnRefStringVersionFollowsColonFormSaid : Prop := fnRefStringVersionFollowsColonFormRow.holds Try.pinned (OpenSpec.ofChange fnRefStringVersionFollowsColonFormSpec)

/-- ITS FALSE NEIGHBOUR: 'it returns false'. Refute it at one input. -/
def fnRefStringVersionFollowsColonFormWrong : ChangeSpec := { name := "fnRefStringVersionFollowsColonForm", fn := fun _ => fun
  | [d1, d2] => { results := [.lit (.bool false)], args := [d1, d2] }
  | _ => none }
def FnRefStringVersionFollowsColonFormWrongFalsely : Prop := fnRefStringVersionFollowsColonFormRow.holds Try.pinned (OpenSpec.ofChange fnRefStringVersionFollowsColonFormWrong)

end Rows
end Go.Proofs.Qxb6605564a
