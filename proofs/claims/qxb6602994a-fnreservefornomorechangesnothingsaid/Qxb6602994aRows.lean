/-
  No cell of these rows narrows 'for every input' (looked for: loops, veiled, ifaces, maps, wideKeys, modest, calm, conditions, laid).
  DERIVED. THE GIVEN ROWS OF THIS SEAT. 7 by the template 'for every input the law returns true; each argument reads behind the call as it read before'; 0 by the template 'total and deterministic' (their statements: Qxb6602994aTotals.lean).
  GIVEN WITH THE SEED: the statements are not yours to turn. If you find one false, say at which input.
  Laid BY PROGRAM, IN A SANDBOX (cutbox-rows.mjs): the forced cells as the released guide's own fill.sh prints them over the translation fc10e49ff1ee9444… (all of the seat's roots in one cut). By AI agents, Wed Nov 11 2026. No macro, syntax, notation, axiom, sorry.
-/
import Derived.Test.Qxb6602994aChecked
import GoSem.Claim
import GoSem.ClaimJoined
import GoSem.ClaimMapViews
import Derived.JoinedTies
import Derived.KernelRfl
namespace Go.Proofs.Qxb6602994a
/- THE CELL 'sum', in the pinned program and in every row, IS THE sha256 OF THE DUMP (.gsa) THAT Qxb6602994aProg.lean LOADS. Nothing in Lean hashes anything: it is a label: what it is worth is what the hold of that sum in a sandbox is worth. -/
noncomputable def Try.pinned : Pinned := { name := "qxb6602994a", sum := "fc10e49ff1ee944448f4cdd792844e4a89cbaf0a101ea343e29896c68093c942", checked := Try.checked }
namespace Rows
def none {H : Type} : Left H := { results := [], args := [] }

/-- 'zzlaws_root_b1.FnSamplingPointLiesOnTheUnitGrid': WHATEVER THE INPUT: true; the input reads as it did. -/
def fnSamplingPointLiesOnTheUnitGridSpec : ChangeSpec := { name := "fnSamplingPointLiesOnTheUnitGrid", fn := fun _ => fun
  | [d] => { results := [.lit (.bool true)], args := [d] }
  | _ => none }
def fnSamplingPointLiesOnTheUnitGridRow : OpenClaim := { program := "qxb6602994a", sum := "fc10e49ff1ee944448f4cdd792844e4a89cbaf0a101ea343e29896c68093c942", func := "example.com/labelwise/labelwise/zzlaws_root_b1.FnSamplingPointLiesOnTheUnitGrid", spec := "fnSamplingPointLiesOnTheUnitGrid", unfollowed := true, recurses := true, apart := false }
def FnSamplingPointLiesOnTheUnitGridSaid : Prop := fnSamplingPointLiesOnTheUnitGridRow.holds Try.pinned (OpenSpec.ofChange fnSamplingPointLiesOnTheUnitGridSpec)

/-- ITS FALSE NEIGHBOUR: 'it returns false'. Refute it at one input. -/
def fnSamplingPointLiesOnTheUnitGridWrong : ChangeSpec := { name := "fnSamplingPointLiesOnTheUnitGrid", fn := fun _ => fun
  | [d] => { results := [.lit (.bool false)], args := [d] }
  | _ => none }
def FnSamplingPointLiesOnTheUnitGridWrongFalsely : Prop := fnSamplingPointLiesOnTheUnitGridRow.holds Try.pinned (OpenSpec.ofChange fnSamplingPointLiesOnTheUnitGridWrong)

/-- 'zzlaws_root_b1.FnSamplingPointDependsOnTheByteStreamAlone': WHATEVER THE INPUT: true; the input reads as it did. -/
def fnSamplingPointDependsOnTheByteStreamAloneSpec : ChangeSpec := { name := "fnSamplingPointDependsOnTheByteStreamAlone", fn := fun _ => fun
  | [d1, d2] => { results := [.lit (.bool true)], args := [d1, d2] }
  | _ => none }
def fnSamplingPointDependsOnTheByteStreamAloneRow : OpenClaim := { program := "qxb6602994a", sum := "fc10e49ff1ee944448f4cdd792844e4a89cbaf0a101ea343e29896c68093c942", func := "example.com/labelwise/labelwise/zzlaws_root_b1.FnSamplingPointDependsOnTheByteStreamAlone", spec := "fnSamplingPointDependsOnTheByteStreamAlone", unfollowed := true, recurses := true, apart := false }
def FnSamplingPointDependsOnTheByteStreamAloneSaid : Prop := fnSamplingPointDependsOnTheByteStreamAloneRow.holds Try.pinned (OpenSpec.ofChange fnSamplingPointDependsOnTheByteStreamAloneSpec)

/-- ITS FALSE NEIGHBOUR: 'it returns false'. Refute it at one input. -/
def fnSamplingPointDependsOnTheByteStreamAloneWrong : ChangeSpec := { name := "fnSamplingPointDependsOnTheByteStreamAlone", fn := fun _ => fun
  | [d1, d2] => { results := [.lit (.bool false)], args := [d1, d2] }
  | _ => none }
def FnSamplingPointDependsOnTheByteStreamAloneWrongFalsely : Prop := fnSamplingPointDependsOnTheByteStreamAloneRow.holds Try.pinned (OpenSpec.ofChange fnSamplingPointDependsOnTheByteStreamAloneWrong)

/-- 'zzlaws_root_b1.FnScanDecimalIsTheLongestDecimalPrefix': WHATEVER THE INPUT: true; the input reads as it did. -/
def fnScanDecimalIsTheLongestDecimalPrefixSpec : ChangeSpec := { name := "fnScanDecimalIsTheLongestDecimalPrefix", fn := fun _ => fun
  | [d1, d2, d3] => { results := [.lit (.bool true)], args := [d1, d2, d3] }
  | _ => none }
def fnScanDecimalIsTheLongestDecimalPrefixRow : OpenClaim := { program := "qxb6602994a", sum := "fc10e49ff1ee944448f4cdd792844e4a89cbaf0a101ea343e29896c68093c942", func := "example.com/labelwise/labelwise/zzlaws_root_b1.FnScanDecimalIsTheLongestDecimalPrefix", spec := "fnScanDecimalIsTheLongestDecimalPrefix", unfollowed := true, recurses := true, apart := false }
def FnScanDecimalIsTheLongestDecimalPrefixSaid : Prop := fnScanDecimalIsTheLongestDecimalPrefixRow.holds Try.pinned (OpenSpec.ofChange fnScanDecimalIsTheLongestDecimalPrefixSpec)

/-- ITS FALSE NEIGHBOUR: 'it returns false'. Refute it at one input. -/
def fnScanDecimalIsTheLongestDecimalPrefixWrong : ChangeSpec := { name := "fnScanDecimalIsTheLongestDecimalPrefix", fn := fun _ => fun
  | [d1, d2, d3] => { results := [.lit (.bool false)], args := [d1, d2, d3] }
  | _ => none }
def FnScanDecimalIsTheLongestDecimalPrefixWrongFalsely : Prop := fnScanDecimalIsTheLongestDecimalPrefixRow.holds Try.pinned (OpenSpec.ofChange fnScanDecimalIsTheLongestDecimalPrefixWrong)

/-- 'zzlaws_root_b1.FnScanDecimalTokenIsLocalAndRescansWhole': WHATEVER THE INPUT: true; the input reads as it did. -/
def fnScanDecimalTokenIsLocalAndRescansWholeSpec : ChangeSpec := { name := "fnScanDecimalTokenIsLocalAndRescansWhole", fn := fun _ => fun
  | [d1, d2, d3] => { results := [.lit (.bool true)], args := [d1, d2, d3] }
  | _ => none }
def fnScanDecimalTokenIsLocalAndRescansWholeRow : OpenClaim := { program := "qxb6602994a", sum := "fc10e49ff1ee944448f4cdd792844e4a89cbaf0a101ea343e29896c68093c942", func := "example.com/labelwise/labelwise/zzlaws_root_b1.FnScanDecimalTokenIsLocalAndRescansWhole", spec := "fnScanDecimalTokenIsLocalAndRescansWhole", unfollowed := true, recurses := true, apart := false }
def FnScanDecimalTokenIsLocalAndRescansWholeSaid : Prop := fnScanDecimalTokenIsLocalAndRescansWholeRow.holds Try.pinned (OpenSpec.ofChange fnScanDecimalTokenIsLocalAndRescansWholeSpec)

/-- ITS FALSE NEIGHBOUR: 'it returns false'. Refute it at one input. -/
def fnScanDecimalTokenIsLocalAndRescansWholeWrong : ChangeSpec := { name := "fnScanDecimalTokenIsLocalAndRescansWhole", fn := fun _ => fun
  | [d1, d2, d3] => { results := [.lit (.bool false)], args := [d1, d2, d3] }
  | _ => none }
def FnScanDecimalTokenIsLocalAndRescansWholeWrongFalsely : Prop := fnScanDecimalTokenIsLocalAndRescansWholeRow.holds Try.pinned (OpenSpec.ofChange fnScanDecimalTokenIsLocalAndRescansWholeWrong)

/-- 'zzlaws_root_b1.FnScanDecimalSeparatorsOnlyWiden': WHATEVER THE INPUT: true; the input reads as it did. -/
def fnScanDecimalSeparatorsOnlyWidenSpec : ChangeSpec := { name := "fnScanDecimalSeparatorsOnlyWiden", fn := fun _ => fun
  | [d1, d2] => { results := [.lit (.bool true)], args := [d1, d2] }
  | _ => none }
def fnScanDecimalSeparatorsOnlyWidenRow : OpenClaim := { program := "qxb6602994a", sum := "fc10e49ff1ee944448f4cdd792844e4a89cbaf0a101ea343e29896c68093c942", func := "example.com/labelwise/labelwise/zzlaws_root_b1.FnScanDecimalSeparatorsOnlyWiden", spec := "fnScanDecimalSeparatorsOnlyWiden", unfollowed := true, recurses := true, apart := false }
def FnScanDecimalSeparatorsOnlyWidenSaid : Prop := fnScanDecimalSeparatorsOnlyWidenRow.holds Try.pinned (OpenSpec.ofChange fnScanDecimalSeparatorsOnlyWidenSpec)

/-- ITS FALSE NEIGHBOUR: 'it returns false'. Refute it at one input. -/
def fnScanDecimalSeparatorsOnlyWidenWrong : ChangeSpec := { name := "fnScanDecimalSeparatorsOnlyWiden", fn := fun _ => fun
  | [d1, d2] => { results := [.lit (.bool false)], args := [d1, d2] }
  | _ => none }
def FnScanDecimalSeparatorsOnlyWidenWrongFalsely : Prop := fnScanDecimalSeparatorsOnlyWidenRow.holds Try.pinned (OpenSpec.ofChange fnScanDecimalSeparatorsOnlyWidenWrong)

/-- 'zzlaws_root_b1.FnReserveMakesRoomAndKeepsEverySetFindable': WHATEVER THE INPUT: true; the input reads as it did. -/
def fnReserveMakesRoomAndKeepsEverySetFindableSpec : ChangeSpec := { name := "fnReserveMakesRoomAndKeepsEverySetFindable", fn := fun _ => fun
  | [d1, d2, d3, d4] => { results := [.lit (.bool true)], args := [d1, d2, d3, d4] }
  | _ => none }
def fnReserveMakesRoomAndKeepsEverySetFindableRow : OpenClaim := { program := "qxb6602994a", sum := "fc10e49ff1ee944448f4cdd792844e4a89cbaf0a101ea343e29896c68093c942", func := "example.com/labelwise/labelwise/zzlaws_root_b1.FnReserveMakesRoomAndKeepsEverySetFindable", spec := "fnReserveMakesRoomAndKeepsEverySetFindable", apart := false }
def FnReserveMakesRoomAndKeepsEverySetFindableSaid : Prop := fnReserveMakesRoomAndKeepsEverySetFindableRow.holds Try.pinned (OpenSpec.ofChange fnReserveMakesRoomAndKeepsEverySetFindableSpec)

/-- ITS FALSE NEIGHBOUR: 'it returns false'. Refute it at one input. -/
def fnReserveMakesRoomAndKeepsEverySetFindableWrong : ChangeSpec := { name := "fnReserveMakesRoomAndKeepsEverySetFindable", fn := fun _ => fun
  | [d1, d2, d3, d4] => { results := [.lit (.bool false)], args := [d1, d2, d3, d4] }
  | _ => none }
def FnReserveMakesRoomAndKeepsEverySetFindableWrongFalsely : Prop := fnReserveMakesRoomAndKeepsEverySetFindableRow.holds Try.pinned (OpenSpec.ofChange fnReserveMakesRoomAndKeepsEverySetFindableWrong)

/-- 'zzlaws_root_b1.FnReserveForNoMoreChangesNothing': WHATEVER THE INPUT: true; the input reads as it did. -/
def fnReserveForNoMoreChangesNothingSpec : ChangeSpec := { name := "fnReserveForNoMoreChangesNothing", fn := fun _ => fun
  | [d1, d2, d3, d4, d5] => { results := [.lit (.bool true)], args := [d1, d2, d3, d4, d5] }
  | _ => none }
def fnReserveForNoMoreChangesNothingRow : OpenClaim := { program := "qxb6602994a", sum := "fc10e49ff1ee944448f4cdd792844e4a89cbaf0a101ea343e29896c68093c942", func := "example.com/labelwise/labelwise/zzlaws_root_b1.FnReserveForNoMoreChangesNothing", spec := "fnReserveForNoMoreChangesNothing", apart := false }
def FnReserveForNoMoreChangesNothingSaid : Prop := fnReserveForNoMoreChangesNothingRow.holds Try.pinned (OpenSpec.ofChange fnReserveForNoMoreChangesNothingSpec)

/-- ITS FALSE NEIGHBOUR: 'it returns false'. Refute it at one input. -/
def fnReserveForNoMoreChangesNothingWrong : ChangeSpec := { name := "fnReserveForNoMoreChangesNothing", fn := fun _ => fun
  | [d1, d2, d3, d4, d5] => { results := [.lit (.bool false)], args := [d1, d2, d3, d4, d5] }
  | _ => none }
def FnReserveForNoMoreChangesNothingWrongFalsely : Prop := fnReserveForNoMoreChangesNothingRow.holds Try.pinned (OpenSpec.ofChange fnReserveForNoMoreChangesNothingWrong)

end Rows
end Go.Proofs.Qxb6602994a
