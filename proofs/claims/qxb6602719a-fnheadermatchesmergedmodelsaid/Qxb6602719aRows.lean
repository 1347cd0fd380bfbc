/-
  No cell of these rows narrows 'for every input' (looked for: loops, veiled, ifaces, maps, wideKeys, modest, calm, conditions, laid).
  DERIVED. THE GIVEN ROWS OF THIS SEAT. 5 by the template 'for every input the law returns true; each argument reads behind the call as it read before'; 0 by the template 'total and deterministic' (their statements: Qxb6602719aTotals.lean).
  GIVEN WITH THE SEED: the statements are not yours to turn. If you find one false, say at which input.
  Laid BY PROGRAM, IN A SANDBOX (cutbox-rows.mjs): the forced cells as the released guide's own fill.sh prints them over the translation 3a9d791cf0023175… (all of the seat's roots in one cut). By AI agents, Wed Nov 11 2026. No macro, syntax, notation, axiom, sorry.
-/
import Derived.Test.Qxb6602719aChecked
import GoSem.Claim
import GoSem.ClaimJoined
import GoSem.ClaimMapViews
import Derived.JoinedTies
import Derived.KernelRfl
namespace Go.Proofs.Qxb6602719a
/- THE CELL 'sum', in the pinned program and in every row, IS THE sha256 OF THE DUMP (.gsa) THAT Qxb6602719aProg.lean LOADS. Nothing in Lean hashes anything: it is a label: what it is worth is what the hold of that sum in a sandbox is worth. -/
noncomputable def Try.pinned : Pinned := { name := "qxb6602719a", sum := "3a9d791cf00231754548589a66c290fc8a5661fd534deba2b00a4399ae4bb717", checked := Try.checked }
namespace Rows
def none {H : Type} : Left H := { results := [], args := [] }

/-- 'zzlaws_root_b1.FnWriteValueDecodesBack': WHATEVER THE INPUT: true; the input reads as it did. -/
def fnWriteValueDecodesBackSpec : ChangeSpec := { name := "fnWriteValueDecodesBack", fn := fun _ => fun
  | [d] => { results := [.lit (.bool true)], args := [d] }
  | _ => none }
def fnWriteValueDecodesBackRow : OpenClaim := { program := "qxb6602719a", sum := "3a9d791cf00231754548589a66c290fc8a5661fd534deba2b00a4399ae4bb717", func := "example.com/epac/epac/zzlaws_root_b1.FnWriteValueDecodesBack", spec := "fnWriteValueDecodesBack", inPlace := ["internal/abi.NoEscape"], apart := false }
def FnWriteValueDecodesBackSaid : Prop := fnWriteValueDecodesBackRow.holds Try.pinned (OpenSpec.ofChange fnWriteValueDecodesBackSpec)

/-- ITS FALSE NEIGHBOUR: 'it returns false'. Refute it at one input. -/
def fnWriteValueDecodesBackWrong : ChangeSpec := { name := "fnWriteValueDecodesBack", fn := fun _ => fun
  | [d] => { results := [.lit (.bool false)], args := [d] }
  | _ => none }
def FnWriteValueDecodesBackWrongFalsely : Prop := fnWriteValueDecodesBackRow.holds Try.pinned (OpenSpec.ofChange fnWriteValueDecodesBackWrong)

/-- 'zzlaws_root_b1.FnEqualFoldASCIIIsEquivalence': WHATEVER THE INPUT: true; the input reads as it did. -/
def fnEqualFoldASCIIIsEquivalenceSpec : ChangeSpec := { name := "fnEqualFoldASCIIIsEquivalence", fn := fun _ => fun
  | [d1, d2, d3] => { results := [.lit (.bool true)], args := [d1, d2, d3] }
  | _ => none }
def fnEqualFoldASCIIIsEquivalenceRow : OpenClaim := { program := "qxb6602719a", sum := "3a9d791cf00231754548589a66c290fc8a5661fd534deba2b00a4399ae4bb717", func := "example.com/epac/epac/zzlaws_root_b1.FnEqualFoldASCIIIsEquivalence", spec := "fnEqualFoldASCIIIsEquivalence", apart := false }
def FnEqualFoldASCIIIsEquivalenceSaid : Prop := fnEqualFoldASCIIIsEquivalenceRow.holds Try.pinned (OpenSpec.ofChange fnEqualFoldASCIIIsEquivalenceSpec)

/-- ITS FALSE NEIGHBOUR: 'it returns false'. Refute it at one input. -/
def fnEqualFoldASCIIIsEquivalenceWrong : ChangeSpec := { name := "fnEqualFoldASCIIIsEquivalence", fn := fun _ => fun
  | [d1, d2, d3] => { results := [.lit (.bool false)], args := [d1, d2, d3] }
  | _ => none }
def FnEqualFoldASCIIIsEquivalenceWrongFalsely : Prop := fnEqualFoldASCIIIsEquivalenceRow.holds Try.pinned (OpenSpec.ofChange fnEqualFoldASCIIIsEquivalenceWrong)

/-- 'zzlaws_root_b1.FnHeaderMatchesMergedModel': WHATEVER THE INPUT: true; the input reads as it did. -/
def fnHeaderMatchesMergedModelSpec : ChangeSpec := { name := "fnHeaderMatchesMergedModel", fn := fun _ => fun
  | [d1, d2, d3] => { results := [.lit (.bool true)], args := [d1, d2, d3] }
  | _ => none }
def fnHeaderMatchesMergedModelRow : OpenClaim := { program := "qxb6602719a", sum := "3a9d791cf00231754548589a66c290fc8a5661fd534deba2b00a4399ae4bb717", func := "example.com/epac/epac/zzlaws_root_b1.FnHeaderMatchesMergedModel", spec := "fnHeaderMatchesMergedModel", inPlace := ["internal/abi.NoEscape", "internal/bytealg.MakeNoZero"], recurses := true, apart := false }
def FnHeaderMatchesMergedModelSaid : Prop := fnHeaderMatchesMergedModelRow.holds Try.pinned (OpenSpec.ofChange fnHeaderMatchesMergedModelSpec)

/-- ITS FALSE NEIGHBOUR: 'it returns false'. Refute it at one input. -/
def fnHeaderMatchesMergedModelWrong : ChangeSpec := { name := "fnHeaderMatchesMergedModel", fn := fun _ => fun
  | [d1, d2, d3] => { results := [.lit (.bool false)], args := [d1, d2, d3] }
  | _ => none }
def FnHeaderMatchesMergedModelWrongFalsely : Prop := fnHeaderMatchesMergedModelRow.holds Try.pinned (OpenSpec.ofChange fnHeaderMatchesMergedModelWrong)

/-- 'zzlaws_root_b1.FnHeaderIgnoresNameCase': WHATEVER THE INPUT: true; the input reads as it did. -/
def fnHeaderIgnoresNameCaseSpec : ChangeSpec := { name := "fnHeaderIgnoresNameCase", fn := fun _ => fun
  | [d1, d2, d3] => { results := [.lit (.bool true)], args := [d1, d2, d3] }
  | _ => none }
def fnHeaderIgnoresNameCaseRow : OpenClaim := { program := "qxb6602719a", sum := "3a9d791cf00231754548589a66c290fc8a5661fd534deba2b00a4399ae4bb717", func := "example.com/epac/epac/zzlaws_root_b1.FnHeaderIgnoresNameCase", spec := "fnHeaderIgnoresNameCase", inPlace := ["internal/abi.NoEscape", "internal/bytealg.MakeNoZero"], recurses := true, apart := false }
def FnHeaderIgnoresNameCaseSaid : Prop := fnHeaderIgnoresNameCaseRow.holds Try.pinned (OpenSpec.ofChange fnHeaderIgnoresNameCaseSpec)

/-- ITS FALSE NEIGHBOUR: 'it returns false'. Refute it at one input. -/
def fnHeaderIgnoresNameCaseWrong : ChangeSpec := { name := "fnHeaderIgnoresNameCase", fn := fun _ => fun
  | [d1, d2, d3] => { results := [.lit (.bool false)], args := [d1, d2, d3] }
  | _ => none }
def FnHeaderIgnoresNameCaseWrongFalsely : Prop := fnHeaderIgnoresNameCaseRow.holds Try.pinned (OpenSpec.ofChange fnHeaderIgnoresNameCaseWrong)

/-- 'zzlaws_root_b1.FnHeaderEmptyValuesAreAbsent': WHATEVER THE INPUT: true; the input reads as it did. -/
def fnHeaderEmptyValuesAreAbsentSpec : ChangeSpec := { name := "fnHeaderEmptyValuesAreAbsent", fn := fun _ => fun
  | [d1, d2, d3, d4, d5] => { results := [.lit (.bool true)], args := [d1, d2, d3, d4, d5] }
  | _ => none }
def fnHeaderEmptyValuesAreAbsentRow : OpenClaim := { program := "qxb6602719a", sum := "3a9d791cf00231754548589a66c290fc8a5661fd534deba2b00a4399ae4bb717", func := "example.com/epac/epac/zzlaws_root_b1.FnHeaderEmptyValuesAreAbsent", spec := "fnHeaderEmptyValuesAreAbsent", inPlace := ["internal/abi.NoEscape", "internal/bytealg.MakeNoZero"], recurses := true, apart := false }
def FnHeaderEmptyValuesAreAbsentSaid : Prop := fnHeaderEmptyValuesAreAbsentRow.holds Try.pinned (OpenSpec.ofChange fnHeaderEmptyValuesAreAbsentSpec)

/-- ITS FALSE NEIGHBOUR: 'it returns false'. Refute it at one input. -/
def fnHeaderEmptyValuesAreAbsentWrong : ChangeSpec := { name := "fnHeaderEmptyValuesAreAbsent", fn := fun _ => fun
  | [d1, d2, d3, d4, d5] => { results := [.lit (.bool false)], args := [d1, d2, d3, d4, d5] }
  | _ => none }
def FnHeaderEmptyValuesAreAbsentWrongFalsely : Prop := fnHeaderEmptyValuesAreAbsentRow.holds Try.pinned (OpenSpec.ofChange fnHeaderEmptyValuesAreAbsentWrong)

end Rows
end Go.Proofs.Qxb6602719a
