/-
  No cell of these rows narrows 'for every input' (looked for: loops, veiled, ifaces, maps, wideKeys, modest, calm, conditions, laid).
  DERIVED. THE GIVEN ROWS OF THIS SEAT. 1 by the template 'for every input the law returns true; each argument reads behind the call as it read before'; 0 by the template 'total and deterministic' (their statements: Qxb6619005aTotals.lean).
  GIVEN WITH THE SEED: the statements are not yours to turn. If you find one false, say at which input.
  Laid BY PROGRAM, IN A SANDBOX (cutbox-rows.mjs): the forced cells as the released guide's own fill.sh prints them over the translation b3360b10fe93cf55… (all of the seat's roots in one cut). By AI agents, Wed Nov 11 2026. No macro, syntax, notation, axiom, sorry.
-/
import Derived.Test.Qxb6619005aChecked
import GoSem.Claim
import GoSem.ClaimJoined
import GoSem.ClaimMapViews
import Derived.JoinedTies
import Derived.KernelRfl
namespace Go.Proofs.Qxb6619005a
/- THE CELL 'sum', in the pinned program and in every row, IS THE sha256 OF THE DUMP (.gsa) THAT Qxb6619005aProg.lean LOADS. Nothing in Lean hashes anything: it is a label: what it is worth is what the hold of that sum in a sandbox is worth. -/
noncomputable def Try.pinned : Pinned := { name := "qxb6619005a", sum := "b3360b10fe93cf55a6c8e23d5aa03c3ea7ed10c0f842b9fc53c0c05c836e3942", checked := Try.checked }
namespace Rows
def none {H : Type} : Left H := { results := [], args := [] }

/-- 'zzlaws_pkg_airport_b1.FnOverlayIsTheLayerModel': WHATEVER THE INPUT: true; the input reads as it did. -/
def fnOverlayIsTheLayerModelSpec : ChangeSpec := { name := "fnOverlayIsTheLayerModel", fn := fun _ => fun
  | [d1, d2] => { results := [.lit (.bool true)], args := [d1, d2] }
  | _ => none }
def fnOverlayIsTheLayerModelRow : OpenClaim := { program := "qxb6619005a", sum := "b3360b10fe93cf55a6c8e23d5aa03c3ea7ed10c0f842b9fc53c0c05c836e3942", func := "example.com/taxiline/taxiline/zzlaws_pkg_airport_b1.FnOverlayIsTheLayerModel", spec := "fnOverlayIsTheLayerModel", unfollowed := true, recurses := true, apart := false }
def FnOverlayIsTheLayerModelSaid : Prop := fnOverlayIsTheLayerModelRow.holds Try.pinned (OpenSpec.ofChange fnOverlayIsTheLayerModelSpec)

/-- ITS FALSE NEIGHBOUR: 'it returns false'. Refute it at one input. -/
def fnOverlayIsTheLayerModelWrong : ChangeSpec := { name := "fnOverlayIsTheLayerModel", fn := fun _ => fun
  | [d1, d2] => { results := [.lit (.bool false)], args := [d1, d2] }
  | _ => none }
def FnOverlayIsTheLayerModelWrongFalsely : Prop := fnOverlayIsTheLayerModelRow.holds Try.pinned (OpenSpec.ofChange fnOverlayIsTheLayerModelWrong)

end Rows
end Go.Proofs.Qxb6619005a
