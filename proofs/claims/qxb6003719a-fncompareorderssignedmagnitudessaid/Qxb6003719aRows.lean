/-
  No cell of these rows narrows 'for every input' (looked for: loops, veiled, ifaces, maps, wideKeys, modest, calm, conditions, laid).
  DERIVED. THE GIVEN ROWS OF THIS SEAT. 3 by the template 'for every input the law returns true; each argument reads behind the call as it read before'; 0 by the template 'total and deterministic' (their statements: Qxb6003719aTotals.lean).
  GIVEN WITH THE SEED: the statements are not yours to turn. If you find one false, say at which input.
  Laid BY PROGRAM, IN A SANDBOX (cutbox-rows.mjs): the forced cells as the released guide's own fill.sh prints them over the translation 76ad0ae98a92b5a8… (all of the seat's roots in one cut). By AI agents, Wed Nov 11 2026. No macro, syntax, notation, axiom, sorry.
-/
import Derived.Test.Qxb6003719aChecked
import GoSem.Claim
import GoSem.ClaimJoined
import GoSem.ClaimMapViews
import Derived.JoinedTies
import Derived.KernelRfl
namespace Go.Proofs.Qxb6003719a
/- THE CELL 'sum', in the pinned program and in every row, IS THE sha256 OF THE DUMP (.gsa) THAT Qxb6003719aProg.lean LOADS. Nothing in Lean hashes anything: it is a label: what it is worth is what the hold of that sum in a sandbox is worth. -/
noncomputable def Try.pinned : Pinned := { name := "qxb6003719a", sum := "76ad0ae98a92b5a8c93c388197d621b67bbd6a3ec20443edf0741e2e4de66136", checked := Try.checked }
namespace Rows
def none {H : Type} : Left H := { results := [], args := [] }

/-- 'zzlaws_decimal_g2.FnShrWordsUndoesShiftUp': WHATEVER THE INPUT: true; the input reads as it did. -/
def fnShrWordsUndoesShiftUpSpec : ChangeSpec := { name := "fnShrWordsUndoesShiftUp", fn := fun _ => fun
  | [d1, d2] => { results := [.lit (.bool true)], args := [d1, d2] }
  | _ => none }
def fnShrWordsUndoesShiftUpRow : OpenClaim := { program := "qxb6003719a", sum := "76ad0ae98a92b5a8c93c388197d621b67bbd6a3ec20443edf0741e2e4de66136", func := "example.com/resolvent/resolvent/zzlaws_decimal_g2.FnShrWordsUndoesShiftUp", spec := "fnShrWordsUndoesShiftUp", inPlace := ["math/bits.Add64"], apart := false }
def FnShrWordsUndoesShiftUpSaid : Prop := fnShrWordsUndoesShiftUpRow.holds Try.pinned (OpenSpec.ofChange fnShrWordsUndoesShiftUpSpec)

/-- ITS FALSE NEIGHBOUR: 'it returns false'. Refute it at one input. -/
def fnShrWordsUndoesShiftUpWrong : ChangeSpec := { name := "fnShrWordsUndoesShiftUp", fn := fun _ => fun
  | [d1, d2] => { results := [.lit (.bool false)], args := [d1, d2] }
  | _ => none }
def FnShrWordsUndoesShiftUpWrongFalsely : Prop := fnShrWordsUndoesShiftUpRow.holds Try.pinned (OpenSpec.ofChange fnShrWordsUndoesShiftUpWrong)

/-- 'zzlaws_decimal_g2.FnCompareOrdersSignedMagnitudes': WHATEVER THE INPUT: true; the input reads as it did. -/
def fnCompareOrdersSignedMagnitudesSpec : ChangeSpec := { name := "fnCompareOrdersSignedMagnitudes", fn := fun _ => fun
  | [d1, d2, d3, d4] => { results := [.lit (.bool true)], args := [d1, d2, d3, d4] }
  | _ => none }
def fnCompareOrdersSignedMagnitudesRow : OpenClaim := { program := "qxb6003719a", sum := "76ad0ae98a92b5a8c93c388197d621b67bbd6a3ec20443edf0741e2e4de66136", func := "example.com/resolvent/resolvent/zzlaws_decimal_g2.FnCompareOrdersSignedMagnitudes", spec := "fnCompareOrdersSignedMagnitudes", apart := false }
def FnCompareOrdersSignedMagnitudesSaid : Prop := fnCompareOrdersSignedMagnitudesRow.holds Try.pinned (OpenSpec.ofChange fnCompareOrdersSignedMagnitudesSpec)

/-- ITS FALSE NEIGHBOUR: 'it returns false'. Refute it at one input. -/
def fnCompareOrdersSignedMagnitudesWrong : ChangeSpec := { name := "fnCompareOrdersSignedMagnitudes", fn := fun _ => fun
  | [d1, d2, d3, d4] => { results := [.lit (.bool false)], args := [d1, d2, d3, d4] }
  | _ => none }
def FnCompareOrdersSignedMagnitudesWrongFalsely : Prop := fnCompareOrdersSignedMagnitudesRow.holds Try.pinned (OpenSpec.ofChange fnCompareOrdersSignedMagnitudesWrong)

/-- 'zzlaws_eventlog_g1.FnTimeAfterIsSaturatingSum': WHATEVER THE INPUT: true; the input reads as it did. -/
def fnTimeAfterIsSaturatingSumSpec : ChangeSpec := { name := "fnTimeAfterIsSaturatingSum", fn := fun _ => fun
  | [d1, d2] => { results := [.lit (.bool true)], args := [d1, d2] }
  | _ => none }
def fnTimeAfterIsSaturatingSumRow : OpenClaim := { program := "qxb6003719a", sum := "76ad0ae98a92b5a8c93c388197d621b67bbd6a3ec20443edf0741e2e4de66136", func := "example.com/resolvent/resolvent/zzlaws_eventlog_g1.FnTimeAfterIsSaturatingSum", spec := "fnTimeAfterIsSaturatingSum", apart := false }
def FnTimeAfterIsSaturatingSumSaid : Prop := fnTimeAfterIsSaturatingSumRow.holds Try.pinned (OpenSpec.ofChange fnTimeAfterIsSaturatingSumSpec)

/-- ITS FALSE NEIGHBOUR: 'it returns false'. Refute it at one input. -/
def fnTimeAfterIsSaturatingSumWrong : ChangeSpec := { name := "fnTimeAfterIsSaturatingSum", fn := fun _ => fun
  | [d1, d2] => { results := [.lit (.bool false)], args := [d1, d2] }
  | _ => none }
def FnTimeAfterIsSaturatingSumWrongFalsely : Prop := fnTimeAfterIsSaturatingSumRow.holds Try.pinned (OpenSpec.ofChange fnTimeAfterIsSaturatingSumWrong)

end Rows
end Go.Proofs.Qxb6003719a
