/-
  No cell of these rows narrows 'for every input' (looked for: loops, veiled, ifaces, maps, wideKeys, modest, calm, conditions, laid).
  DERIVED. THE GIVEN ROWS OF THIS SEAT. 6 by the template 'for every input the law returns true; each argument reads behind the call as it read before'; 0 by the template 'total and deterministic' (their statements: Qxb6616435aTotals.lean).
  GIVEN WITH THE SEED: the statements are not yours to turn. If you find one false, say at which input.
  Laid BY PROGRAM, IN A SANDBOX (cutbox-rows.mjs): the forced cells as the released guide's own fill.sh prints them over the translation 82dea9278c9cdc1d… (all of the seat's roots in one cut). By AI agents, Wed Nov 11 2026. No macro, syntax, notation, axiom, sorry.
-/
import Derived.Test.Qxb6616435aChecked
import GoSem.Claim
import GoSem.ClaimJoined
import GoSem.ClaimMapViews
import Derived.JoinedTies
import Derived.KernelRfl
namespace Go.Proofs.Qxb6616435a
/- THE CELL 'sum', in the pinned program and in every row, IS THE sha256 OF THE DUMP (.gsa) THAT Qxb6616435aProg.lean LOADS. Nothing in Lean hashes anything: it is a label: what it is worth is what the hold of that sum in a sandbox is worth. -/
noncomputable def Try.pinned : Pinned := { name := "qxb6616435a", sum := "82dea9278c9cdc1d0ff9639de30836eb7063ed9025560a106f488fbee1d1fe67", checked := Try.checked }
namespace Rows
def none {H : Type} : Left H := { results := [], args := [] }

/-- 'zzlaws_internal_locktable_b1.FnModeSetHasReadsBackTheSet': WHATEVER THE INPUT: true; the input reads as it did. -/
def fnModeSetHasReadsBackTheSetSpec : ChangeSpec := { name := "fnModeSetHasReadsBackTheSet", fn := fun _ => fun
  | [d] => { results := [.lit (.bool true)], args := [d] }
  | _ => none }
def fnModeSetHasReadsBackTheSetRow : OpenClaim := { program := "qxb6616435a", sum := "82dea9278c9cdc1d0ff9639de30836eb7063ed9025560a106f488fbee1d1fe67", func := "example.com/holdfast/holdfast/zzlaws_internal_locktable_b1.FnModeSetHasReadsBackTheSet", spec := "fnModeSetHasReadsBackTheSet", plainKeys := false, apart := false }
def FnModeSetHasReadsBackTheSetSaid : Prop := fnModeSetHasReadsBackTheSetRow.holds Try.pinned (OpenSpec.ofChange fnModeSetHasReadsBackTheSetSpec)

/-- ITS FALSE NEIGHBOUR: 'it returns false'. Refute it at one input. -/
def fnModeSetHasReadsBackTheSetWrong : ChangeSpec := { name := "fnModeSetHasReadsBackTheSet", fn := fun _ => fun
  | [d] => { results := [.lit (.bool false)], args := [d] }
  | _ => none }
def FnModeSetHasReadsBackTheSetWrongFalsely : Prop := fnModeSetHasReadsBackTheSetRow.holds Try.pinned (OpenSpec.ofChange fnModeSetHasReadsBackTheSetWrong)

/-- 'zzlaws_internal_locktable_b1.FnModeSetHasFollowsSetAlgebra': WHATEVER THE INPUT: true; the input reads as it did. -/
def fnModeSetHasFollowsSetAlgebraSpec : ChangeSpec := { name := "fnModeSetHasFollowsSetAlgebra", fn := fun _ => fun
  | [d1, d2, d3] => { results := [.lit (.bool true)], args := [d1, d2, d3] }
  | _ => none }
def fnModeSetHasFollowsSetAlgebraRow : OpenClaim := { program := "qxb6616435a", sum := "82dea9278c9cdc1d0ff9639de30836eb7063ed9025560a106f488fbee1d1fe67", func := "example.com/holdfast/holdfast/zzlaws_internal_locktable_b1.FnModeSetHasFollowsSetAlgebra", spec := "fnModeSetHasFollowsSetAlgebra", plainKeys := false, apart := false }
def FnModeSetHasFollowsSetAlgebraSaid : Prop := fnModeSetHasFollowsSetAlgebraRow.holds Try.pinned (OpenSpec.ofChange fnModeSetHasFollowsSetAlgebraSpec)

/-- ITS FALSE NEIGHBOUR: 'it returns false'. Refute it at one input. -/
def fnModeSetHasFollowsSetAlgebraWrong : ChangeSpec := { name := "fnModeSetHasFollowsSetAlgebra", fn := fun _ => fun
  | [d1, d2, d3] => { results := [.lit (.bool false)], args := [d1, d2, d3] }
  | _ => none }
def FnModeSetHasFollowsSetAlgebraWrongFalsely : Prop := fnModeSetHasFollowsSetAlgebraRow.holds Try.pinned (OpenSpec.ofChange fnModeSetHasFollowsSetAlgebraWrong)

/-- 'zzlaws_internal_locktable_b1.FnHoldBackUnionsSlotsInAnyOrder': WHATEVER THE INPUT: true; the input reads as it did. -/
def fnHoldBackUnionsSlotsInAnyOrderSpec : ChangeSpec := { name := "fnHoldBackUnionsSlotsInAnyOrder", fn := fun _ => fun
  | [d1, d2] => { results := [.lit (.bool true)], args := [d1, d2] }
  | _ => none }
def fnHoldBackUnionsSlotsInAnyOrderRow : OpenClaim := { program := "qxb6616435a", sum := "82dea9278c9cdc1d0ff9639de30836eb7063ed9025560a106f488fbee1d1fe67", func := "example.com/holdfast/holdfast/zzlaws_internal_locktable_b1.FnHoldBackUnionsSlotsInAnyOrder", spec := "fnHoldBackUnionsSlotsInAnyOrder", plainKeys := false, apart := false }
def FnHoldBackUnionsSlotsInAnyOrderSaid : Prop := fnHoldBackUnionsSlotsInAnyOrderRow.holds Try.pinned (OpenSpec.ofChange fnHoldBackUnionsSlotsInAnyOrderSpec)

/-- ITS FALSE NEIGHBOUR: 'it returns false'. Refute it at one input. -/
def fnHoldBackUnionsSlotsInAnyOrderWrong : ChangeSpec := { name := "fnHoldBackUnionsSlotsInAnyOrder", fn := fun _ => fun
  | [d1, d2] => { results := [.lit (.bool false)], args := [d1, d2] }
  | _ => none }
def FnHoldBackUnionsSlotsInAnyOrderWrongFalsely : Prop := fnHoldBackUnionsSlotsInAnyOrderRow.holds Try.pinned (OpenSpec.ofChange fnHoldBackUnionsSlotsInAnyOrderWrong)

/-- 'zzlaws_internal_locktable_b1.FnHoldBackAddsOneSlotAndTouchesNothingElse': WHATEVER THE INPUT: true; the input reads as it did. -/
def fnHoldBackAddsOneSlotAndTouchesNothingElseSpec : ChangeSpec := { name := "fnHoldBackAddsOneSlotAndTouchesNothingElse", fn := fun _ => fun
  | [d1, d2, d3, d4] => { results := [.lit (.bool true)], args := [d1, d2, d3, d4] }
  | _ => none }
def fnHoldBackAddsOneSlotAndTouchesNothingElseRow : OpenClaim := { program := "qxb6616435a", sum := "82dea9278c9cdc1d0ff9639de30836eb7063ed9025560a106f488fbee1d1fe67", func := "example.com/holdfast/holdfast/zzlaws_internal_locktable_b1.FnHoldBackAddsOneSlotAndTouchesNothingElse", spec := "fnHoldBackAddsOneSlotAndTouchesNothingElse", plainKeys := false, apart := false }
def FnHoldBackAddsOneSlotAndTouchesNothingElseSaid : Prop := fnHoldBackAddsOneSlotAndTouchesNothingElseRow.holds Try.pinned (OpenSpec.ofChange fnHoldBackAddsOneSlotAndTouchesNothingElseSpec)

/-- ITS FALSE NEIGHBOUR: 'it returns false'. Refute it at one input. -/
def fnHoldBackAddsOneSlotAndTouchesNothingElseWrong : ChangeSpec := { name := "fnHoldBackAddsOneSlotAndTouchesNothingElse", fn := fun _ => fun
  | [d1, d2, d3, d4] => { results := [.lit (.bool false)], args := [d1, d2, d3, d4] }
  | _ => none }
def FnHoldBackAddsOneSlotAndTouchesNothingElseWrongFalsely : Prop := fnHoldBackAddsOneSlotAndTouchesNothingElseRow.holds Try.pinned (OpenSpec.ofChange fnHoldBackAddsOneSlotAndTouchesNothingElseWrong)

/-- 'zzlaws_internal_locktable_b1.FnForgetFoldedDropsExactlyTheKeptMark': WHATEVER THE INPUT: true; the input reads as it did. -/
def fnForgetFoldedDropsExactlyTheKeptMarkSpec : ChangeSpec := { name := "fnForgetFoldedDropsExactlyTheKeptMark", fn := fun _ => fun
  | [d1, d2, d3, d4, d5, d6] => { results := [.lit (.bool true)], args := [d1, d2, d3, d4, d5, d6] }
  | _ => none }
def fnForgetFoldedDropsExactlyTheKeptMarkRow : OpenClaim := { program := "qxb6616435a", sum := "82dea9278c9cdc1d0ff9639de30836eb7063ed9025560a106f488fbee1d1fe67", func := "example.com/holdfast/holdfast/zzlaws_internal_locktable_b1.FnForgetFoldedDropsExactlyTheKeptMark", spec := "fnForgetFoldedDropsExactlyTheKeptMark", inPlace := ["internal/abi.NoEscape", "internal/bytealg.MakeNoZero"], plainKeys := false, apart := false }
def FnForgetFoldedDropsExactlyTheKeptMarkSaid : Prop := fnForgetFoldedDropsExactlyTheKeptMarkRow.holds Try.pinned (OpenSpec.ofChange fnForgetFoldedDropsExactlyTheKeptMarkSpec)

/-- ITS FALSE NEIGHBOUR: 'it returns false'. Refute it at one input. -/
def fnForgetFoldedDropsExactlyTheKeptMarkWrong : ChangeSpec := { name := "fnForgetFoldedDropsExactlyTheKeptMark", fn := fun _ => fun
  | [d1, d2, d3, d4, d5, d6] => { results := [.lit (.bool false)], args := [d1, d2, d3, d4, d5, d6] }
  | _ => none }
def FnForgetFoldedDropsExactlyTheKeptMarkWrongFalsely : Prop := fnForgetFoldedDropsExactlyTheKeptMarkRow.holds Try.pinned (OpenSpec.ofChange fnForgetFoldedDropsExactlyTheKeptMarkWrong)

/-- 'zzlaws_internal_locktable_b1.FnForgetFoldedTwiceIsOnceAndSparesTheOtherMode': WHATEVER THE INPUT: true; the input reads as it did. -/
def fnForgetFoldedTwiceIsOnceAndSparesTheOtherModeSpec : ChangeSpec := { name := "fnForgetFoldedTwiceIsOnceAndSparesTheOtherMode", fn := fun _ => fun
  | [d1, d2, d3, d4, d5, d6] => { results := [.lit (.bool true)], args := [d1, d2, d3, d4, d5, d6] }
  | _ => none }
def fnForgetFoldedTwiceIsOnceAndSparesTheOtherModeRow : OpenClaim := { program := "qxb6616435a", sum := "82dea9278c9cdc1d0ff9639de30836eb7063ed9025560a106f488fbee1d1fe67", func := "example.com/holdfast/holdfast/zzlaws_internal_locktable_b1.FnForgetFoldedTwiceIsOnceAndSparesTheOtherMode", spec := "fnForgetFoldedTwiceIsOnceAndSparesTheOtherMode", inPlace := ["internal/abi.NoEscape", "internal/bytealg.MakeNoZero"], plainKeys := false, apart := false }
def FnForgetFoldedTwiceIsOnceAndSparesTheOtherModeSaid : Prop := fnForgetFoldedTwiceIsOnceAndSparesTheOtherModeRow.holds Try.pinned (OpenSpec.ofChange fnForgetFoldedTwiceIsOnceAndSparesTheOtherModeSpec)

/-- ITS FALSE NEIGHBOUR: 'it returns false'. Refute it at one input. -/
def fnForgetFoldedTwiceIsOnceAndSparesTheOtherModeWrong : ChangeSpec := { name := "fnForgetFoldedTwiceIsOnceAndSparesTheOtherMode", fn := fun _ => fun
  | [d1, d2, d3, d4, d5, d6] => { results := [.lit (.bool false)], args := [d1, d2, d3, d4, d5, d6] }
  | _ => none }
def FnForgetFoldedTwiceIsOnceAndSparesTheOtherModeWrongFalsely : Prop := fnForgetFoldedTwiceIsOnceAndSparesTheOtherModeRow.holds Try.pinned (OpenSpec.ofChange fnForgetFoldedTwiceIsOnceAndSparesTheOtherModeWrong)

end Rows
end Go.Proofs.Qxb6616435a
