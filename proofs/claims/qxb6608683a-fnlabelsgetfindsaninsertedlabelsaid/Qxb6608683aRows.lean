/-
  No cell of these rows narrows 'for every input' (looked for: loops, veiled, ifaces, maps, wideKeys, modest, calm, conditions, laid).
  DERIVED. THE GIVEN ROWS OF THIS SEAT. 2 by the template 'for every input the law returns true; each argument reads behind the call as it read before'; 0 by the template 'total and deterministic' (their statements: Qxb6608683aTotals.lean).
  GIVEN WITH THE SEED: the statements are not yours to turn. If you find one false, say at which input.
  Laid BY PROGRAM, IN A SANDBOX (cutbox-rows.mjs): the forced cells as the released guide's own fill.sh prints them over the translation e40dcfeea4c59d45… (all of the seat's roots in one cut). By AI agents, Wed Nov 11 2026. No macro, syntax, notation, axiom, sorry.
-/
import Derived.Test.Qxb6608683aChecked
import GoSem.Claim
import GoSem.ClaimJoined
import GoSem.ClaimMapViews
import Derived.JoinedTies
import Derived.KernelRfl
namespace Go.Proofs.Qxb6608683a
/- THE CELL 'sum', in the pinned program and in every row, IS THE sha256 OF THE DUMP (.gsa) THAT Qxb6608683aProg.lean LOADS. Nothing in Lean hashes anything: it is a label: what it is worth is what the hold of that sum in a sandbox is worth. -/
noncomputable def Try.pinned : Pinned := { name := "qxb6608683a", sum := "e40dcfeea4c59d45dae6d936c1b6e774d18d014f358a4eb078629ea3175a211b", checked := Try.checked }
namespace Rows
def none {H : Type} : Left H := { results := [], args := [] }

/-- 'zzlaws_internal_inventory_b1.FnLabelsGetIsLookupInSortedLabels': WHATEVER THE INPUT: true; the input reads as it did. -/
def fnLabelsGetIsLookupInSortedLabelsSpec : ChangeSpec := { name := "fnLabelsGetIsLookupInSortedLabels", fn := fun _ => fun
  | [d1, d2] => { results := [.lit (.bool true)], args := [d1, d2] }
  | _ => none }
def fnLabelsGetIsLookupInSortedLabelsRow : OpenClaim := { program := "qxb6608683a", sum := "e40dcfeea4c59d45dae6d936c1b6e774d18d014f358a4eb078629ea3175a211b", func := "example.com/winnow/winnow/zzlaws_internal_inventory_b1.FnLabelsGetIsLookupInSortedLabels", spec := "fnLabelsGetIsLookupInSortedLabels", unfollowed := true, recurses := true, apart := false }
def FnLabelsGetIsLookupInSortedLabelsSaid : Prop := fnLabelsGetIsLookupInSortedLabelsRow.holds Try.pinned (OpenSpec.ofChange fnLabelsGetIsLookupInSortedLabelsSpec)

/-- ITS FALSE NEIGHBOUR: 'it returns false'. Refute it at one input. -/
def fnLabelsGetIsLookupInSortedLabelsWrong : ChangeSpec := { name := "fnLabelsGetIsLookupInSortedLabels", fn := fun _ => fun
  | [d1, d2] => { results := [.lit (.bool false)], args := [d1, d2] }
  | _ => none }
def FnLabelsGetIsLookupInSortedLabelsWrongFalsely : Prop := fnLabelsGetIsLookupInSortedLabelsRow.holds Try.pinned (OpenSpec.ofChange fnLabelsGetIsLookupInSortedLabelsWrong)

/-- 'zzlaws_internal_inventory_b1.FnLabelsGetFindsAnInsertedLabel': WHATEVER THE INPUT: true; the input reads as it did. -/
def fnLabelsGetFindsAnInsertedLabelSpec : ChangeSpec := { name := "fnLabelsGetFindsAnInsertedLabel", fn := fun _ => fun
  | [d1, d2, d3, d4] => { results := [.lit (.bool true)], args := [d1, d2, d3, d4] }
  | _ => none }
def fnLabelsGetFindsAnInsertedLabelRow : OpenClaim := { program := "qxb6608683a", sum := "e40dcfeea4c59d45dae6d936c1b6e774d18d014f358a4eb078629ea3175a211b", func := "example.com/winnow/winnow/zzlaws_internal_inventory_b1.FnLabelsGetFindsAnInsertedLabel", spec := "fnLabelsGetFindsAnInsertedLabel", unfollowed := true, recurses := true, apart := false }
def FnLabelsGetFindsAnInsertedLabelSaid : Prop := fnLabelsGetFindsAnInsertedLabelRow.holds Try.pinned (OpenSpec.ofChange fnLabelsGetFindsAnInsertedLabelSpec)

/-- ITS FALSE NEIGHBOUR: 'it returns false'. Refute it at one input. -/
def fnLabelsGetFindsAnInsertedLabelWrong : ChangeSpec := { name := "fnLabelsGetFindsAnInsertedLabel", fn := fun _ => fun
  | [d1, d2, d3, d4] => { results := [.lit (.bool false)], args := [d1, d2, d3, d4] }
  | _ => none }
def FnLabelsGetFindsAnInsertedLabelWrongFalsely : Prop := fnLabelsGetFindsAnInsertedLabelRow.holds Try.pinned (OpenSpec.ofChange fnLabelsGetFindsAnInsertedLabelWrong)

end Rows
end Go.Proofs.Qxb6608683a
