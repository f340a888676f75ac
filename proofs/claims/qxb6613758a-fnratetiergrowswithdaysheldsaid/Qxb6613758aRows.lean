/-
  No cell of these rows narrows 'for every input' (looked for: loops, veiled, ifaces, maps, wideKeys, modest, calm, conditions, laid).
  DERIVED. THE GIVEN ROWS OF THIS SEAT. 2 by the template 'for every input the law returns true; each argument reads behind the call as it read before'; 0 by the template 'total and deterministic' (their statements: Qxb6613758aTotals.lean).
  GIVEN WITH THE SEED: the statements are not yours to turn. If you find one false, say at which input.
  Laid BY PROGRAM, IN A SANDBOX (cutbox-rows.mjs): the forced cells as the released guide's own fill.sh prints them over the translation ceadd4e2d4e0aa7a… (all of the seat's roots in one cut). By AI agents, Wed Nov 11 2026. No macro, syntax, notation, axiom, sorry.
-/
import Derived.Test.Qxb6613758aChecked
import GoSem.Claim
import GoSem.ClaimJoined
import GoSem.ClaimMapViews
import Derived.JoinedTies
import Derived.KernelRfl
namespace Go.Proofs.Qxb6613758a
/- THE CELL 'sum', in the pinned program and in every row, IS THE sha256 OF THE DUMP (.gsa) THAT Qxb6613758aProg.lean LOADS. Nothing in Lean hashes anything: it is a label: what it is worth is what the hold of that sum in a sandbox is worth. -/
noncomputable def Try.pinned : Pinned := { name := "qxb6613758a", sum := "ceadd4e2d4e0aa7a04a6e89ee72366f53b365283c2be4f31af8a450ab0513673", checked := Try.checked }
namespace Rows
def none {H : Type} : Left H := { results := [], args := [] }

/-- 'zzlaws_root_b1.FnRateJoinedScheduleAtAnyCut': WHATEVER THE INPUT: true; the input reads as it did. -/
def fnRateJoinedScheduleAtAnyCutSpec : ChangeSpec := { name := "fnRateJoinedScheduleAtAnyCut", fn := fun _ => fun
  | [d1, d2, d3] => { results := [.lit (.bool true)], args := [d1, d2, d3] }
  | _ => none }
def fnRateJoinedScheduleAtAnyCutRow : OpenClaim := { program := "qxb6613758a", sum := "ceadd4e2d4e0aa7a04a6e89ee72366f53b365283c2be4f31af8a450ab0513673", func := "example.com/zhaomu/zhaomu/zzlaws_root_b1.FnRateJoinedScheduleAtAnyCut", spec := "fnRateJoinedScheduleAtAnyCut", apart := false }
def FnRateJoinedScheduleAtAnyCutSaid : Prop := fnRateJoinedScheduleAtAnyCutRow.holds Try.pinned (OpenSpec.ofChange fnRateJoinedScheduleAtAnyCutSpec)

/-- ITS FALSE NEIGHBOUR: 'it returns false'. Refute it at one input. -/
def fnRateJoinedScheduleAtAnyCutWrong : ChangeSpec := { name := "fnRateJoinedScheduleAtAnyCut", fn := fun _ => fun
  | [d1, d2, d3] => { results := [.lit (.bool false)], args := [d1, d2, d3] }
  | _ => none }
def FnRateJoinedScheduleAtAnyCutWrongFalsely : Prop := fnRateJoinedScheduleAtAnyCutRow.holds Try.pinned (OpenSpec.ofChange fnRateJoinedScheduleAtAnyCutWrong)

/-- 'zzlaws_root_b1.FnRateTierGrowsWithDaysHeld': WHATEVER THE INPUT: true; the input reads as it did. -/
def fnRateTierGrowsWithDaysHeldSpec : ChangeSpec := { name := "fnRateTierGrowsWithDaysHeld", fn := fun _ => fun
  | [d1, d2, d3] => { results := [.lit (.bool true)], args := [d1, d2, d3] }
  | _ => none }
def fnRateTierGrowsWithDaysHeldRow : OpenClaim := { program := "qxb6613758a", sum := "ceadd4e2d4e0aa7a04a6e89ee72366f53b365283c2be4f31af8a450ab0513673", func := "example.com/zhaomu/zhaomu/zzlaws_root_b1.FnRateTierGrowsWithDaysHeld", spec := "fnRateTierGrowsWithDaysHeld", apart := false }
def FnRateTierGrowsWithDaysHeldSaid : Prop := fnRateTierGrowsWithDaysHeldRow.holds Try.pinned (OpenSpec.ofChange fnRateTierGrowsWithDaysHeldSpec)

/-- ITS FALSE NEIGHBOUR: 'it returns false'. Refute it at one input. -/
def fnRateTierGrowsWithDaysHeldWrong : ChangeSpec := { name := "fnRateTierGrowsWithDaysHeld", fn := fun _ => fun
  | [d1, d2, d3] => { results := [.lit (.bool false)], args := [d1, d2, d3] }
  | _ => none }
def FnRateTierGrowsWithDaysHeldWrongFalsely : Prop := fnRateTierGrowsWithDaysHeldRow.holds Try.pinned (OpenSpec.ofChange fnRateTierGrowsWithDaysHeldWrong)

end Rows
end Go.Proofs.Qxb6613758a
