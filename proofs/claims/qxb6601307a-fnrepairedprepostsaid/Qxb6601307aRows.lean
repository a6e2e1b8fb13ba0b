/-
  No cell of these rows narrows 'for every input' (looked for: loops, veiled, ifaces, maps, wideKeys, modest, calm, conditions, laid).
  DERIVED. THE GIVEN ROWS OF THIS SEAT. 5 by the template 'for every input the law returns true; each argument reads behind the call as it read before'; 0 by the template 'total and deterministic' (their statements: Qxb6601307aTotals.lean).
  GIVEN WITH THE SEED: the statements are not yours to turn. If you find one false, say at which input.
  Laid BY PROGRAM, IN A SANDBOX (cutbox-rows.mjs): the forced cells as the released guide's own fill.sh prints them over the translation 2f6266f3360db73a… (all of the seat's roots in one cut). By AI agents, Wed Nov 11 2026. No macro, syntax, notation, axiom, sorry.
-/
import Derived.Test.Qxb6601307aChecked
import GoSem.Claim
import GoSem.ClaimJoined
import GoSem.ClaimMapViews
import Derived.JoinedTies
import Derived.KernelRfl
namespace Go.Proofs.Qxb6601307a
/- THE CELL 'sum', in the pinned program and in every row, IS THE sha256 OF THE DUMP (.gsa) THAT Qxb6601307aProg.lean LOADS. Nothing in Lean hashes anything: it is a label: what it is worth is what the hold of that sum in a sandbox is worth. -/
noncomputable def Try.pinned : Pinned := { name := "qxb6601307a", sum := "2f6266f3360db73a1aa786a63a7d9e404f5817f39ec4156d4339759795267994", checked := Try.checked }
namespace Rows
def none {H : Type} : Left H := { results := [], args := [] }

/-- 'zzlaws_recovery_b1.FnNextPullsMatchesModel': WHATEVER THE INPUT: true; the input reads as it did. -/
def fnNextPullsMatchesModelSpec : ChangeSpec := { name := "fnNextPullsMatchesModel", fn := fun _ => fun
  | [d1, d2, d3, d4, d5, d6] => { results := [.lit (.bool true)], args := [d1, d2, d3, d4, d5, d6] }
  | _ => none }
def fnNextPullsMatchesModelRow : OpenClaim := { program := "qxb6601307a", sum := "2f6266f3360db73a1aa786a63a7d9e404f5817f39ec4156d4339759795267994", func := "example.com/convene/convene/zzlaws_recovery_b1.FnNextPullsMatchesModel", spec := "fnNextPullsMatchesModel", plainKeys := false, apart := false }
def FnNextPullsMatchesModelSaid : Prop := fnNextPullsMatchesModelRow.holds Try.pinned (OpenSpec.ofChange fnNextPullsMatchesModelSpec)

/-- ITS FALSE NEIGHBOUR: 'it returns false'. Refute it at one input. -/
def fnNextPullsMatchesModelWrong : ChangeSpec := { name := "fnNextPullsMatchesModel", fn := fun _ => fun
  | [d1, d2, d3, d4, d5, d6] => { results := [.lit (.bool false)], args := [d1, d2, d3, d4, d5, d6] }
  | _ => none }
def FnNextPullsMatchesModelWrongFalsely : Prop := fnNextPullsMatchesModelRow.holds Try.pinned (OpenSpec.ofChange fnNextPullsMatchesModelWrong)

/-- 'zzlaws_recovery_b1.FnPullScriptKeepsWindowAndAsksOnce': WHATEVER THE INPUT: true; the input reads as it did. -/
def fnPullScriptKeepsWindowAndAsksOnceSpec : ChangeSpec := { name := "fnPullScriptKeepsWindowAndAsksOnce", fn := fun _ => fun
  | [d1, d2, d3, d4, d5, d6, d7] => { results := [.lit (.bool true)], args := [d1, d2, d3, d4, d5, d6, d7] }
  | _ => none }
def fnPullScriptKeepsWindowAndAsksOnceRow : OpenClaim := { program := "qxb6601307a", sum := "2f6266f3360db73a1aa786a63a7d9e404f5817f39ec4156d4339759795267994", func := "example.com/convene/convene/zzlaws_recovery_b1.FnPullScriptKeepsWindowAndAsksOnce", spec := "fnPullScriptKeepsWindowAndAsksOnce", plainKeys := false, apart := false }
def FnPullScriptKeepsWindowAndAsksOnceSaid : Prop := fnPullScriptKeepsWindowAndAsksOnceRow.holds Try.pinned (OpenSpec.ofChange fnPullScriptKeepsWindowAndAsksOnceSpec)

/-- ITS FALSE NEIGHBOUR: 'it returns false'. Refute it at one input. -/
def fnPullScriptKeepsWindowAndAsksOnceWrong : ChangeSpec := { name := "fnPullScriptKeepsWindowAndAsksOnce", fn := fun _ => fun
  | [d1, d2, d3, d4, d5, d6, d7] => { results := [.lit (.bool false)], args := [d1, d2, d3, d4, d5, d6, d7] }
  | _ => none }
def FnPullScriptKeepsWindowAndAsksOnceWrongFalsely : Prop := fnPullScriptKeepsWindowAndAsksOnceRow.holds Try.pinned (OpenSpec.ofChange fnPullScriptKeepsWindowAndAsksOnceWrong)

/-- 'zzlaws_recovery_b1.FnRepairedPrePost': WHATEVER THE INPUT: true; the input reads as it did. -/
def fnRepairedPrePostSpec : ChangeSpec := { name := "fnRepairedPrePost", fn := fun _ => fun
  | [d1, d2, d3, d4, d5, d6, d7, d8] => { results := [.lit (.bool true)], args := [d1, d2, d3, d4, d5, d6, d7, d8] }
  | _ => none }
def fnRepairedPrePostRow : OpenClaim := { program := "qxb6601307a", sum := "2f6266f3360db73a1aa786a63a7d9e404f5817f39ec4156d4339759795267994", func := "example.com/convene/convene/zzlaws_recovery_b1.FnRepairedPrePost", spec := "fnRepairedPrePost", plainKeys := false, apart := false }
def FnRepairedPrePostSaid : Prop := fnRepairedPrePostRow.holds Try.pinned (OpenSpec.ofChange fnRepairedPrePostSpec)

/-- ITS FALSE NEIGHBOUR: 'it returns false'. Refute it at one input. -/
def fnRepairedPrePostWrong : ChangeSpec := { name := "fnRepairedPrePost", fn := fun _ => fun
  | [d1, d2, d3, d4, d5, d6, d7, d8] => { results := [.lit (.bool false)], args := [d1, d2, d3, d4, d5, d6, d7, d8] }
  | _ => none }
def FnRepairedPrePostWrongFalsely : Prop := fnRepairedPrePostRow.holds Try.pinned (OpenSpec.ofChange fnRepairedPrePostWrong)

/-- 'zzlaws_recovery_b1.FnRepairedSettlesAfterTwo': WHATEVER THE INPUT: true; the input reads as it did. -/
def fnRepairedSettlesAfterTwoSpec : ChangeSpec := { name := "fnRepairedSettlesAfterTwo", fn := fun _ => fun
  | [d1, d2, d3, d4, d5, d6, d7, d8] => { results := [.lit (.bool true)], args := [d1, d2, d3, d4, d5, d6, d7, d8] }
  | _ => none }
def fnRepairedSettlesAfterTwoRow : OpenClaim := { program := "qxb6601307a", sum := "2f6266f3360db73a1aa786a63a7d9e404f5817f39ec4156d4339759795267994", func := "example.com/convene/convene/zzlaws_recovery_b1.FnRepairedSettlesAfterTwo", spec := "fnRepairedSettlesAfterTwo", plainKeys := false, apart := false }
def FnRepairedSettlesAfterTwoSaid : Prop := fnRepairedSettlesAfterTwoRow.holds Try.pinned (OpenSpec.ofChange fnRepairedSettlesAfterTwoSpec)

/-- ITS FALSE NEIGHBOUR: 'it returns false'. Refute it at one input. -/
def fnRepairedSettlesAfterTwoWrong : ChangeSpec := { name := "fnRepairedSettlesAfterTwo", fn := fun _ => fun
  | [d1, d2, d3, d4, d5, d6, d7, d8] => { results := [.lit (.bool false)], args := [d1, d2, d3, d4, d5, d6, d7, d8] }
  | _ => none }
def FnRepairedSettlesAfterTwoWrongFalsely : Prop := fnRepairedSettlesAfterTwoRow.holds Try.pinned (OpenSpec.ofChange fnRepairedSettlesAfterTwoWrong)

/-- 'zzlaws_recovery_b1.FnNotRecoveringAsksNothing': WHATEVER THE INPUT: true; the input reads as it did. -/
def fnNotRecoveringAsksNothingSpec : ChangeSpec := { name := "fnNotRecoveringAsksNothing", fn := fun _ => fun
  | [d1, d2, d3, d4, d5, d6] => { results := [.lit (.bool true)], args := [d1, d2, d3, d4, d5, d6] }
  | _ => none }
def fnNotRecoveringAsksNothingRow : OpenClaim := { program := "qxb6601307a", sum := "2f6266f3360db73a1aa786a63a7d9e404f5817f39ec4156d4339759795267994", func := "example.com/convene/convene/zzlaws_recovery_b1.FnNotRecoveringAsksNothing", spec := "fnNotRecoveringAsksNothing", plainKeys := false, apart := false }
def FnNotRecoveringAsksNothingSaid : Prop := fnNotRecoveringAsksNothingRow.holds Try.pinned (OpenSpec.ofChange fnNotRecoveringAsksNothingSpec)

/-- ITS FALSE NEIGHBOUR: 'it returns false'. Refute it at one input. -/
def fnNotRecoveringAsksNothingWrong : ChangeSpec := { name := "fnNotRecoveringAsksNothing", fn := fun _ => fun
  | [d1, d2, d3, d4, d5, d6] => { results := [.lit (.bool false)], args := [d1, d2, d3, d4, d5, d6] }
  | _ => none }
def FnNotRecoveringAsksNothingWrongFalsely : Prop := fnNotRecoveringAsksNothingRow.holds Try.pinned (OpenSpec.ofChange fnNotRecoveringAsksNothingWrong)

end Rows
end Go.Proofs.Qxb6601307a
