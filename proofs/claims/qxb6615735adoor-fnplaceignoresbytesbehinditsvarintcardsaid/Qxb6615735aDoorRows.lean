/-
  NARROWER THAN 'FOR EVERY INPUT', by the rows' own cells (each row's printed sentence says how): FnPlaceTwoInARowStickyRefusal: ifaces, laid · FnPlaceIgnoresBytesBehindItsVarint: ifaces, laid.
  DERIVED. THE GIVEN ROWS OF THIS SEAT. 2 by the template 'for every input the law returns true; each argument reads behind the call as it read before'; 0 by the template 'total and deterministic' (their statements: Qxb6615735aDoorTotals.lean).
  GIVEN WITH THE SEED: the statements are not yours to turn. If you find one false, say at which input.
  Laid BY PROGRAM, IN A SANDBOX (cutbox-rows.mjs): the forced cells as the released guide's own fill.sh prints them over the translation d102f41ee4a8cfbd… (all of the seat's roots in one cut). By AI agents, Wed Nov 11 2026. No macro, syntax, notation, axiom, sorry.
-/
import Derived.Test.Qxb6615735aDoorChecked
import GoSem.Claim
import GoSem.ClaimJoined
import GoSem.ClaimMapViews
import Derived.JoinedTies
import Derived.KernelRfl
namespace Go.Proofs.Qxb6615735aDoor
/- THE CELL 'sum', in the pinned program and in every row, IS THE sha256 OF THE DUMP (.gsa) THAT Qxb6615735aDoorProg.lean LOADS. Nothing in Lean hashes anything: it is a label: what it is worth is what the hold of that sum in a sandbox is worth. -/
noncomputable def Tryd.pinned : Pinned := { name := "qxb6615735adoor", sum := "d102f41ee4a8cfbd0db2576fa87ef62da2e7c7a6b0669e2bc609d257ccfa4967", checked := Tryd.checked }
namespace Rows
def none {H : Type} : Left H := { results := [], args := [] }

/- WHAT THE LISTED PACKAGE-LEVEL VARIABLES READ AS WHEN THE CALL BEGINS. Each datum BY PROGRAM (the guide's laid-datum.mjs) off the statement by which the dump's own 'gosem.cut.vars' lays the variable. In a bare row this is a premise. The card (Qxb6615735aDoorCards.lean) ties it to the program's text. -/
def laid_example_com_plumbline_plumbline_internal_protocol_errShort {H : Type} : DataW H := .iface "*errors.errorString" (.ptr (.agg [.lit (.string [109, 97, 108, 102, 111, 114, 109, 101, 100, 32, 101, 110, 99, 111, 100, 105, 110, 103])]))

/-- 'zzlaws_internal_protocol_b1.FnPlaceTwoInARowStickyRefusal': WHATEVER THE INPUT: true; the input reads as it did. -/
def fnPlaceTwoInARowStickyRefusalSpec : ChangeSpec := { name := "fnPlaceTwoInARowStickyRefusal", vars := ["example.com/plumbline/plumbline/internal/protocol.errShort"], fn := fun _ => fun
  | [d1, d2, d3, g1] => { results := [.lit (.bool true)], args := [d1, d2, d3], vars := [g1] }
  | _ => none }
def fnPlaceTwoInARowStickyRefusalRow : OpenClaim := { program := "qxb6615735adoor", sum := "d102f41ee4a8cfbd0db2576fa87ef62da2e7c7a6b0669e2bc609d257ccfa4967", func := "example.com/plumbline/plumbline/zzlaws_internal_protocol_b1.FnPlaceTwoInARowStickyRefusal", spec := "fnPlaceTwoInARowStickyRefusal", named := ["example.com/plumbline/plumbline/internal/protocol.errShort"], ifaces := true, apart := false, laid := [("example.com/plumbline/plumbline/internal/protocol.errShort", laid_example_com_plumbline_plumbline_internal_protocol_errShort)] }
def FnPlaceTwoInARowStickyRefusalSaid : Prop := fnPlaceTwoInARowStickyRefusalRow.holds Tryd.pinned (OpenSpec.ofChange fnPlaceTwoInARowStickyRefusalSpec)

/-- ITS FALSE NEIGHBOUR: 'it returns false'. Refute it at one input. -/
def fnPlaceTwoInARowStickyRefusalWrong : ChangeSpec := { name := "fnPlaceTwoInARowStickyRefusal", vars := ["example.com/plumbline/plumbline/internal/protocol.errShort"], fn := fun _ => fun
  | [d1, d2, d3, g1] => { results := [.lit (.bool false)], args := [d1, d2, d3], vars := [g1] }
  | _ => none }
def FnPlaceTwoInARowStickyRefusalWrongFalsely : Prop := fnPlaceTwoInARowStickyRefusalRow.holds Tryd.pinned (OpenSpec.ofChange fnPlaceTwoInARowStickyRefusalWrong)

/-- 'zzlaws_internal_protocol_b1.FnPlaceIgnoresBytesBehindItsVarint': WHATEVER THE INPUT: true; the input reads as it did. -/
def fnPlaceIgnoresBytesBehindItsVarintSpec : ChangeSpec := { name := "fnPlaceIgnoresBytesBehindItsVarint", vars := ["example.com/plumbline/plumbline/internal/protocol.errShort"], fn := fun _ => fun
  | [d1, d2, d3, g1] => { results := [.lit (.bool true)], args := [d1, d2, d3], vars := [g1] }
  | _ => none }
def fnPlaceIgnoresBytesBehindItsVarintRow : OpenClaim := { program := "qxb6615735adoor", sum := "d102f41ee4a8cfbd0db2576fa87ef62da2e7c7a6b0669e2bc609d257ccfa4967", func := "example.com/plumbline/plumbline/zzlaws_internal_protocol_b1.FnPlaceIgnoresBytesBehindItsVarint", spec := "fnPlaceIgnoresBytesBehindItsVarint", named := ["example.com/plumbline/plumbline/internal/protocol.errShort"], ifaces := true, apart := false, laid := [("example.com/plumbline/plumbline/internal/protocol.errShort", laid_example_com_plumbline_plumbline_internal_protocol_errShort)] }
def FnPlaceIgnoresBytesBehindItsVarintSaid : Prop := fnPlaceIgnoresBytesBehindItsVarintRow.holds Tryd.pinned (OpenSpec.ofChange fnPlaceIgnoresBytesBehindItsVarintSpec)

/-- ITS FALSE NEIGHBOUR: 'it returns false'. Refute it at one input. -/
def fnPlaceIgnoresBytesBehindItsVarintWrong : ChangeSpec := { name := "fnPlaceIgnoresBytesBehindItsVarint", vars := ["example.com/plumbline/plumbline/internal/protocol.errShort"], fn := fun _ => fun
  | [d1, d2, d3, g1] => { results := [.lit (.bool false)], args := [d1, d2, d3], vars := [g1] }
  | _ => none }
def FnPlaceIgnoresBytesBehindItsVarintWrongFalsely : Prop := fnPlaceIgnoresBytesBehindItsVarintRow.holds Tryd.pinned (OpenSpec.ofChange fnPlaceIgnoresBytesBehindItsVarintWrong)

end Rows
end Go.Proofs.Qxb6615735aDoor
