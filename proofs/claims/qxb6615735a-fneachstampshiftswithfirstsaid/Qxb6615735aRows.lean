/-
  No cell of these rows narrows 'for every input' (looked for: loops, veiled, ifaces, maps, wideKeys, modest, calm, conditions, laid).
  DERIVED. THE GIVEN ROWS OF THIS SEAT. 2 by the template 'for every input the law returns true; each argument reads behind the call as it read before'; 0 by the template 'total and deterministic' (their statements: Qxb6615735aTotals.lean).
  GIVEN WITH THE SEED: the statements are not yours to turn. If you find one false, say at which input.
  Laid BY PROGRAM, IN A SANDBOX (cutbox-rows.mjs): the forced cells as the released guide's own fill.sh prints them over the translation 88057be1a2b5469b… (all of the seat's roots in one cut). By AI agents, Wed Nov 11 2026. No macro, syntax, notation, axiom, sorry.
-/
import Derived.Test.Qxb6615735aChecked
import GoSem.Claim
import GoSem.ClaimJoined
import GoSem.ClaimMapViews
import Derived.JoinedTies
import Derived.KernelRfl
namespace Go.Proofs.Qxb6615735a
/- THE CELL 'sum', in the pinned program and in every row, IS THE sha256 OF THE DUMP (.gsa) THAT Qxb6615735aProg.lean LOADS. Nothing in Lean hashes anything: it is a label: what it is worth is what the hold of that sum in a sandbox is worth. -/
noncomputable def Try.pinned : Pinned := { name := "qxb6615735a", sum := "88057be1a2b5469bea80e47485d2b58209c6b5d43f8cbbcc3a975a0a362ecec6", checked := Try.checked }
namespace Rows
def none {H : Type} : Left H := { results := [], args := [] }

/-- 'zzlaws_internal_protocol_b1.FnEachStampCutAnywhere': WHATEVER THE INPUT: true; the input reads as it did. -/
def fnEachStampCutAnywhereSpec : ChangeSpec := { name := "fnEachStampCutAnywhere", fn := fun _ => fun
  | [d1, d2, d3, d4, d5, d6] => { results := [.lit (.bool true)], args := [d1, d2, d3, d4, d5, d6] }
  | _ => none }
def fnEachStampCutAnywhereRow : OpenClaim := { program := "qxb6615735a", sum := "88057be1a2b5469bea80e47485d2b58209c6b5d43f8cbbcc3a975a0a362ecec6", func := "example.com/plumbline/plumbline/zzlaws_internal_protocol_b1.FnEachStampCutAnywhere", spec := "fnEachStampCutAnywhere", unfollowed := true, recurses := true, apart := false }
def FnEachStampCutAnywhereSaid : Prop := fnEachStampCutAnywhereRow.holds Try.pinned (OpenSpec.ofChange fnEachStampCutAnywhereSpec)

/-- ITS FALSE NEIGHBOUR: 'it returns false'. Refute it at one input. -/
def fnEachStampCutAnywhereWrong : ChangeSpec := { name := "fnEachStampCutAnywhere", fn := fun _ => fun
  | [d1, d2, d3, d4, d5, d6] => { results := [.lit (.bool false)], args := [d1, d2, d3, d4, d5, d6] }
  | _ => none }
def FnEachStampCutAnywhereWrongFalsely : Prop := fnEachStampCutAnywhereRow.holds Try.pinned (OpenSpec.ofChange fnEachStampCutAnywhereWrong)

/-- 'zzlaws_internal_protocol_b1.FnEachStampShiftsWithFirst': WHATEVER THE INPUT: true; the input reads as it did. -/
def fnEachStampShiftsWithFirstSpec : ChangeSpec := { name := "fnEachStampShiftsWithFirst", fn := fun _ => fun
  | [d1, d2, d3, d4, d5, d6, d7, d8] => { results := [.lit (.bool true)], args := [d1, d2, d3, d4, d5, d6, d7, d8] }
  | _ => none }
def fnEachStampShiftsWithFirstRow : OpenClaim := { program := "qxb6615735a", sum := "88057be1a2b5469bea80e47485d2b58209c6b5d43f8cbbcc3a975a0a362ecec6", func := "example.com/plumbline/plumbline/zzlaws_internal_protocol_b1.FnEachStampShiftsWithFirst", spec := "fnEachStampShiftsWithFirst", unfollowed := true, recurses := true, apart := false }
def FnEachStampShiftsWithFirstSaid : Prop := fnEachStampShiftsWithFirstRow.holds Try.pinned (OpenSpec.ofChange fnEachStampShiftsWithFirstSpec)

/-- ITS FALSE NEIGHBOUR: 'it returns false'. Refute it at one input. -/
def fnEachStampShiftsWithFirstWrong : ChangeSpec := { name := "fnEachStampShiftsWithFirst", fn := fun _ => fun
  | [d1, d2, d3, d4, d5, d6, d7, d8] => { results := [.lit (.bool false)], args := [d1, d2, d3, d4, d5, d6, d7, d8] }
  | _ => none }
def FnEachStampShiftsWithFirstWrongFalsely : Prop := fnEachStampShiftsWithFirstRow.holds Try.pinned (OpenSpec.ofChange fnEachStampShiftsWithFirstWrong)

end Rows
end Go.Proofs.Qxb6615735a
