/-
  No cell of these rows narrows 'for every input' (looked for: loops, veiled, ifaces, maps, wideKeys, modest, calm, conditions, laid).
  DERIVED. THE GIVEN ROWS OF THIS SEAT. 5 by the template 'for every input the law returns true; each argument reads behind the call as it read before'; 0 by the template 'total and deterministic' (their statements: Qxb6602894aTotals.lean).
  GIVEN WITH THE SEED: the statements are not yours to turn. If you find one false, say at which input.
  Laid BY PROGRAM, IN A SANDBOX (cutbox-rows.mjs): the forced cells as the released guide's own fill.sh prints them over the translation d31548db8afd53c3… (all of the seat's roots in one cut). By AI agents, Wed Nov 11 2026. No macro, syntax, notation, axiom, sorry.
-/
import Derived.Test.Qxb6602894aChecked
import GoSem.Claim
import GoSem.ClaimJoined
import GoSem.ClaimMapViews
import Derived.JoinedTies
import Derived.KernelRfl
namespace Go.Proofs.Qxb6602894a
/- THE CELL 'sum', in the pinned program and in every row, IS THE sha256 OF THE DUMP (.gsa) THAT Qxb6602894aProg.lean LOADS. Nothing in Lean hashes anything: it is a label: what it is worth is what the hold of that sum in a sandbox is worth. -/
noncomputable def Try.pinned : Pinned := { name := "qxb6602894a", sum := "d31548db8afd53c3c548908f1edcc4e7c7b8403bfc1c1b78e049546d1c2b345a", checked := Try.checked }
namespace Rows
def none {H : Type} : Left H := { results := [], args := [] }

/-- 'zzlaws_root_b1.FnSeqIndexAddScriptMatchesModel': WHATEVER THE INPUT: true; the input reads as it did. -/
def fnSeqIndexAddScriptMatchesModelSpec : ChangeSpec := { name := "fnSeqIndexAddScriptMatchesModel", fn := fun _ => fun
  | [d] => { results := [.lit (.bool true)], args := [d] }
  | _ => none }
def fnSeqIndexAddScriptMatchesModelRow : OpenClaim := { program := "qxb6602894a", sum := "d31548db8afd53c3c548908f1edcc4e7c7b8403bfc1c1b78e049546d1c2b345a", func := "example.com/marklevel/marklevel/zzlaws_root_b1.FnSeqIndexAddScriptMatchesModel", spec := "fnSeqIndexAddScriptMatchesModel", apart := false }
def FnSeqIndexAddScriptMatchesModelSaid : Prop := fnSeqIndexAddScriptMatchesModelRow.holds Try.pinned (OpenSpec.ofChange fnSeqIndexAddScriptMatchesModelSpec)

/-- ITS FALSE NEIGHBOUR: 'it returns false'. Refute it at one input. -/
def fnSeqIndexAddScriptMatchesModelWrong : ChangeSpec := { name := "fnSeqIndexAddScriptMatchesModel", fn := fun _ => fun
  | [d] => { results := [.lit (.bool false)], args := [d] }
  | _ => none }
def FnSeqIndexAddScriptMatchesModelWrongFalsely : Prop := fnSeqIndexAddScriptMatchesModelRow.holds Try.pinned (OpenSpec.ofChange fnSeqIndexAddScriptMatchesModelWrong)

/-- 'zzlaws_root_b1.FnSeqIndexChainsListEachHashNewestFirst': WHATEVER THE INPUT: true; the input reads as it did. -/
def fnSeqIndexChainsListEachHashNewestFirstSpec : ChangeSpec := { name := "fnSeqIndexChainsListEachHashNewestFirst", fn := fun _ => fun
  | [d] => { results := [.lit (.bool true)], args := [d] }
  | _ => none }
def fnSeqIndexChainsListEachHashNewestFirstRow : OpenClaim := { program := "qxb6602894a", sum := "d31548db8afd53c3c548908f1edcc4e7c7b8403bfc1c1b78e049546d1c2b345a", func := "example.com/marklevel/marklevel/zzlaws_root_b1.FnSeqIndexChainsListEachHashNewestFirst", spec := "fnSeqIndexChainsListEachHashNewestFirst", apart := false }
def FnSeqIndexChainsListEachHashNewestFirstSaid : Prop := fnSeqIndexChainsListEachHashNewestFirstRow.holds Try.pinned (OpenSpec.ofChange fnSeqIndexChainsListEachHashNewestFirstSpec)

/-- ITS FALSE NEIGHBOUR: 'it returns false'. Refute it at one input. -/
def fnSeqIndexChainsListEachHashNewestFirstWrong : ChangeSpec := { name := "fnSeqIndexChainsListEachHashNewestFirst", fn := fun _ => fun
  | [d] => { results := [.lit (.bool false)], args := [d] }
  | _ => none }
def FnSeqIndexChainsListEachHashNewestFirstWrongFalsely : Prop := fnSeqIndexChainsListEachHashNewestFirstRow.holds Try.pinned (OpenSpec.ofChange fnSeqIndexChainsListEachHashNewestFirstWrong)

/-- 'zzlaws_root_b1.FnLevelEndIsFirstPrefixTotalReachingQ': WHATEVER THE INPUT: true; the input reads as it did. -/
def fnLevelEndIsFirstPrefixTotalReachingQSpec : ChangeSpec := { name := "fnLevelEndIsFirstPrefixTotalReachingQ", fn := fun _ => fun
  | [d1, d2, d3, d4] => { results := [.lit (.bool true)], args := [d1, d2, d3, d4] }
  | _ => none }
def fnLevelEndIsFirstPrefixTotalReachingQRow : OpenClaim := { program := "qxb6602894a", sum := "d31548db8afd53c3c548908f1edcc4e7c7b8403bfc1c1b78e049546d1c2b345a", func := "example.com/marklevel/marklevel/zzlaws_root_b1.FnLevelEndIsFirstPrefixTotalReachingQ", spec := "fnLevelEndIsFirstPrefixTotalReachingQ", apart := false }
def FnLevelEndIsFirstPrefixTotalReachingQSaid : Prop := fnLevelEndIsFirstPrefixTotalReachingQRow.holds Try.pinned (OpenSpec.ofChange fnLevelEndIsFirstPrefixTotalReachingQSpec)

/-- ITS FALSE NEIGHBOUR: 'it returns false'. Refute it at one input. -/
def fnLevelEndIsFirstPrefixTotalReachingQWrong : ChangeSpec := { name := "fnLevelEndIsFirstPrefixTotalReachingQ", fn := fun _ => fun
  | [d1, d2, d3, d4] => { results := [.lit (.bool false)], args := [d1, d2, d3, d4] }
  | _ => none }
def FnLevelEndIsFirstPrefixTotalReachingQWrongFalsely : Prop := fnLevelEndIsFirstPrefixTotalReachingQRow.holds Try.pinned (OpenSpec.ofChange fnLevelEndIsFirstPrefixTotalReachingQWrong)

/-- 'zzlaws_root_b1.FnLevelEndIsIdempotentWithinHoldings': WHATEVER THE INPUT: true; the input reads as it did. -/
def fnLevelEndIsIdempotentWithinHoldingsSpec : ChangeSpec := { name := "fnLevelEndIsIdempotentWithinHoldings", fn := fun _ => fun
  | [d1, d2, d3, d4] => { results := [.lit (.bool true)], args := [d1, d2, d3, d4] }
  | _ => none }
def fnLevelEndIsIdempotentWithinHoldingsRow : OpenClaim := { program := "qxb6602894a", sum := "d31548db8afd53c3c548908f1edcc4e7c7b8403bfc1c1b78e049546d1c2b345a", func := "example.com/marklevel/marklevel/zzlaws_root_b1.FnLevelEndIsIdempotentWithinHoldings", spec := "fnLevelEndIsIdempotentWithinHoldings", apart := false }
def FnLevelEndIsIdempotentWithinHoldingsSaid : Prop := fnLevelEndIsIdempotentWithinHoldingsRow.holds Try.pinned (OpenSpec.ofChange fnLevelEndIsIdempotentWithinHoldingsSpec)

/-- ITS FALSE NEIGHBOUR: 'it returns false'. Refute it at one input. -/
def fnLevelEndIsIdempotentWithinHoldingsWrong : ChangeSpec := { name := "fnLevelEndIsIdempotentWithinHoldings", fn := fun _ => fun
  | [d1, d2, d3, d4] => { results := [.lit (.bool false)], args := [d1, d2, d3, d4] }
  | _ => none }
def FnLevelEndIsIdempotentWithinHoldingsWrongFalsely : Prop := fnLevelEndIsIdempotentWithinHoldingsRow.holds Try.pinned (OpenSpec.ofChange fnLevelEndIsIdempotentWithinHoldingsWrong)

/-- 'zzlaws_root_b1.FnLevelEndIsMonotoneAndConstantWithinALevel': WHATEVER THE INPUT: true; the input reads as it did. -/
def fnLevelEndIsMonotoneAndConstantWithinALevelSpec : ChangeSpec := { name := "fnLevelEndIsMonotoneAndConstantWithinALevel", fn := fun _ => fun
  | [d1, d2, d3, d4, d5] => { results := [.lit (.bool true)], args := [d1, d2, d3, d4, d5] }
  | _ => none }
def fnLevelEndIsMonotoneAndConstantWithinALevelRow : OpenClaim := { program := "qxb6602894a", sum := "d31548db8afd53c3c548908f1edcc4e7c7b8403bfc1c1b78e049546d1c2b345a", func := "example.com/marklevel/marklevel/zzlaws_root_b1.FnLevelEndIsMonotoneAndConstantWithinALevel", spec := "fnLevelEndIsMonotoneAndConstantWithinALevel", apart := false }
def FnLevelEndIsMonotoneAndConstantWithinALevelSaid : Prop := fnLevelEndIsMonotoneAndConstantWithinALevelRow.holds Try.pinned (OpenSpec.ofChange fnLevelEndIsMonotoneAndConstantWithinALevelSpec)

/-- ITS FALSE NEIGHBOUR: 'it returns false'. Refute it at one input. -/
def fnLevelEndIsMonotoneAndConstantWithinALevelWrong : ChangeSpec := { name := "fnLevelEndIsMonotoneAndConstantWithinALevel", fn := fun _ => fun
  | [d1, d2, d3, d4, d5] => { results := [.lit (.bool false)], args := [d1, d2, d3, d4, d5] }
  | _ => none }
def FnLevelEndIsMonotoneAndConstantWithinALevelWrongFalsely : Prop := fnLevelEndIsMonotoneAndConstantWithinALevelRow.holds Try.pinned (OpenSpec.ofChange fnLevelEndIsMonotoneAndConstantWithinALevelWrong)

end Rows
end Go.Proofs.Qxb6602894a
