/-
  No cell of these rows narrows 'for every input' (looked for: loops, veiled, ifaces, maps, wideKeys, modest, calm, conditions, laid).
  DERIVED. THE GIVEN ROWS OF THIS SEAT. 5 by the template 'for every input the law returns true; each argument reads behind the call as it read before'; 0 by the template 'total and deterministic' (their statements: Qxb6601309aTotals.lean).
  GIVEN WITH THE SEED: the statements are not yours to turn. If you find one false, say at which input.
  Laid BY PROGRAM, IN A SANDBOX (cutbox-rows.mjs): the forced cells as the released guide's own fill.sh prints them over the translation cf068c01034a8c75… (all of the seat's roots in one cut). By AI agents, Wed Nov 11 2026. No macro, syntax, notation, axiom, sorry.
-/
import Derived.Test.Qxb6601309aChecked
import GoSem.Claim
import GoSem.ClaimJoined
import GoSem.ClaimMapViews
import Derived.JoinedTies
import Derived.KernelRfl
namespace Go.Proofs.Qxb6601309a
/- THE CELL 'sum', in the pinned program and in every row, IS THE sha256 OF THE DUMP (.gsa) THAT Qxb6601309aProg.lean LOADS. Nothing in Lean hashes anything: it is a label: what it is worth is what the hold of that sum in a sandbox is worth. -/
noncomputable def Try.pinned : Pinned := { name := "qxb6601309a", sum := "cf068c01034a8c754aa7733e6a0468ec437bee8819eb17cb5aa3d47a8dcc93ee", checked := Try.checked }
namespace Rows
def none {H : Type} : Left H := { results := [], args := [] }

/-- 'zzlaws_internal_nearest_b1.FnNearestIsLeastNameAtLeastEditDistance': WHATEVER THE INPUT: true; the input reads as it did. -/
def fnNearestIsLeastNameAtLeastEditDistanceSpec : ChangeSpec := { name := "fnNearestIsLeastNameAtLeastEditDistance", fn := fun _ => fun
  | [d1, d2, d3, d4, d5, d6] => { results := [.lit (.bool true)], args := [d1, d2, d3, d4, d5, d6] }
  | _ => none }
def fnNearestIsLeastNameAtLeastEditDistanceRow : OpenClaim := { program := "qxb6601309a", sum := "cf068c01034a8c754aa7733e6a0468ec437bee8819eb17cb5aa3d47a8dcc93ee", func := "example.com/rung3/rung3/zzlaws_internal_nearest_b1.FnNearestIsLeastNameAtLeastEditDistance", spec := "fnNearestIsLeastNameAtLeastEditDistance", recurses := true, apart := false }
def FnNearestIsLeastNameAtLeastEditDistanceSaid : Prop := fnNearestIsLeastNameAtLeastEditDistanceRow.holds Try.pinned (OpenSpec.ofChange fnNearestIsLeastNameAtLeastEditDistanceSpec)

/-- ITS FALSE NEIGHBOUR: 'it returns false'. Refute it at one input. -/
def fnNearestIsLeastNameAtLeastEditDistanceWrong : ChangeSpec := { name := "fnNearestIsLeastNameAtLeastEditDistance", fn := fun _ => fun
  | [d1, d2, d3, d4, d5, d6] => { results := [.lit (.bool false)], args := [d1, d2, d3, d4, d5, d6] }
  | _ => none }
def FnNearestIsLeastNameAtLeastEditDistanceWrongFalsely : Prop := fnNearestIsLeastNameAtLeastEditDistanceRow.holds Try.pinned (OpenSpec.ofChange fnNearestIsLeastNameAtLeastEditDistanceWrong)

/-- 'zzlaws_internal_nearest_b1.FnNearestFindsEachNameAtDistanceZero': WHATEVER THE INPUT: true; the input reads as it did. -/
def fnNearestFindsEachNameAtDistanceZeroSpec : ChangeSpec := { name := "fnNearestFindsEachNameAtDistanceZero", fn := fun _ => fun
  | [d1, d2, d3, d4, d5, d6] => { results := [.lit (.bool true)], args := [d1, d2, d3, d4, d5, d6] }
  | _ => none }
def fnNearestFindsEachNameAtDistanceZeroRow : OpenClaim := { program := "qxb6601309a", sum := "cf068c01034a8c754aa7733e6a0468ec437bee8819eb17cb5aa3d47a8dcc93ee", func := "example.com/rung3/rung3/zzlaws_internal_nearest_b1.FnNearestFindsEachNameAtDistanceZero", spec := "fnNearestFindsEachNameAtDistanceZero", apart := false }
def FnNearestFindsEachNameAtDistanceZeroSaid : Prop := fnNearestFindsEachNameAtDistanceZeroRow.holds Try.pinned (OpenSpec.ofChange fnNearestFindsEachNameAtDistanceZeroSpec)

/-- ITS FALSE NEIGHBOUR: 'it returns false'. Refute it at one input. -/
def fnNearestFindsEachNameAtDistanceZeroWrong : ChangeSpec := { name := "fnNearestFindsEachNameAtDistanceZero", fn := fun _ => fun
  | [d1, d2, d3, d4, d5, d6] => { results := [.lit (.bool false)], args := [d1, d2, d3, d4, d5, d6] }
  | _ => none }
def FnNearestFindsEachNameAtDistanceZeroWrongFalsely : Prop := fnNearestFindsEachNameAtDistanceZeroRow.holds Try.pinned (OpenSpec.ofChange fnNearestFindsEachNameAtDistanceZeroWrong)

/-- 'zzlaws_internal_nearest_b1.FnFillRowChainAgreesWithEditDistance': WHATEVER THE INPUT: true; the input reads as it did. -/
def fnFillRowChainAgreesWithEditDistanceSpec : ChangeSpec := { name := "fnFillRowChainAgreesWithEditDistance", fn := fun _ => fun
  | [d1, d2] => { results := [.lit (.bool true)], args := [d1, d2] }
  | _ => none }
def fnFillRowChainAgreesWithEditDistanceRow : OpenClaim := { program := "qxb6601309a", sum := "cf068c01034a8c754aa7733e6a0468ec437bee8819eb17cb5aa3d47a8dcc93ee", func := "example.com/rung3/rung3/zzlaws_internal_nearest_b1.FnFillRowChainAgreesWithEditDistance", spec := "fnFillRowChainAgreesWithEditDistance", apart := false }
def FnFillRowChainAgreesWithEditDistanceSaid : Prop := fnFillRowChainAgreesWithEditDistanceRow.holds Try.pinned (OpenSpec.ofChange fnFillRowChainAgreesWithEditDistanceSpec)

/-- ITS FALSE NEIGHBOUR: 'it returns false'. Refute it at one input. -/
def fnFillRowChainAgreesWithEditDistanceWrong : ChangeSpec := { name := "fnFillRowChainAgreesWithEditDistance", fn := fun _ => fun
  | [d1, d2] => { results := [.lit (.bool false)], args := [d1, d2] }
  | _ => none }
def FnFillRowChainAgreesWithEditDistanceWrongFalsely : Prop := fnFillRowChainAgreesWithEditDistanceRow.holds Try.pinned (OpenSpec.ofChange fnFillRowChainAgreesWithEditDistanceWrong)

/-- 'zzlaws_internal_nearest_b1.FnAfterIsFirstLaterNameNotSharingPrefix': WHATEVER THE INPUT: true; the input reads as it did. -/
def fnAfterIsFirstLaterNameNotSharingPrefixSpec : ChangeSpec := { name := "fnAfterIsFirstLaterNameNotSharingPrefix", fn := fun _ => fun
  | [d1, d2, d3, d4, d5, d6, d7] => { results := [.lit (.bool true)], args := [d1, d2, d3, d4, d5, d6, d7] }
  | _ => none }
def fnAfterIsFirstLaterNameNotSharingPrefixRow : OpenClaim := { program := "qxb6601309a", sum := "cf068c01034a8c754aa7733e6a0468ec437bee8819eb17cb5aa3d47a8dcc93ee", func := "example.com/rung3/rung3/zzlaws_internal_nearest_b1.FnAfterIsFirstLaterNameNotSharingPrefix", spec := "fnAfterIsFirstLaterNameNotSharingPrefix", apart := false }
def FnAfterIsFirstLaterNameNotSharingPrefixSaid : Prop := fnAfterIsFirstLaterNameNotSharingPrefixRow.holds Try.pinned (OpenSpec.ofChange fnAfterIsFirstLaterNameNotSharingPrefixSpec)

/-- ITS FALSE NEIGHBOUR: 'it returns false'. Refute it at one input. -/
def fnAfterIsFirstLaterNameNotSharingPrefixWrong : ChangeSpec := { name := "fnAfterIsFirstLaterNameNotSharingPrefix", fn := fun _ => fun
  | [d1, d2, d3, d4, d5, d6, d7] => { results := [.lit (.bool false)], args := [d1, d2, d3, d4, d5, d6, d7] }
  | _ => none }
def FnAfterIsFirstLaterNameNotSharingPrefixWrongFalsely : Prop := fnAfterIsFirstLaterNameNotSharingPrefixRow.holds Try.pinned (OpenSpec.ofChange fnAfterIsFirstLaterNameNotSharingPrefixWrong)

/-- 'zzlaws_internal_nearest_b1.FnAfterFallsAsPrefixLengthGrows': WHATEVER THE INPUT: true; the input reads as it did. -/
def fnAfterFallsAsPrefixLengthGrowsSpec : ChangeSpec := { name := "fnAfterFallsAsPrefixLengthGrows", fn := fun _ => fun
  | [d1, d2, d3, d4, d5, d6, d7, d8] => { results := [.lit (.bool true)], args := [d1, d2, d3, d4, d5, d6, d7, d8] }
  | _ => none }
def fnAfterFallsAsPrefixLengthGrowsRow : OpenClaim := { program := "qxb6601309a", sum := "cf068c01034a8c754aa7733e6a0468ec437bee8819eb17cb5aa3d47a8dcc93ee", func := "example.com/rung3/rung3/zzlaws_internal_nearest_b1.FnAfterFallsAsPrefixLengthGrows", spec := "fnAfterFallsAsPrefixLengthGrows", apart := false }
def FnAfterFallsAsPrefixLengthGrowsSaid : Prop := fnAfterFallsAsPrefixLengthGrowsRow.holds Try.pinned (OpenSpec.ofChange fnAfterFallsAsPrefixLengthGrowsSpec)

/-- ITS FALSE NEIGHBOUR: 'it returns false'. Refute it at one input. -/
def fnAfterFallsAsPrefixLengthGrowsWrong : ChangeSpec := { name := "fnAfterFallsAsPrefixLengthGrows", fn := fun _ => fun
  | [d1, d2, d3, d4, d5, d6, d7, d8] => { results := [.lit (.bool false)], args := [d1, d2, d3, d4, d5, d6, d7, d8] }
  | _ => none }
def FnAfterFallsAsPrefixLengthGrowsWrongFalsely : Prop := fnAfterFallsAsPrefixLengthGrowsRow.holds Try.pinned (OpenSpec.ofChange fnAfterFallsAsPrefixLengthGrowsWrong)

end Rows
end Go.Proofs.Qxb6601309a
