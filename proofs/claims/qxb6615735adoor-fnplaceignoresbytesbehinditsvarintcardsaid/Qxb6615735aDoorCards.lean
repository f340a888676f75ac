/-
  DERIVED. GIVEN WITH THE SEED: THE CARDS: each row of Qxb6615735aDoorRows.lean that lists a variable, with what it lists TIED to the program's text (the seventh form; the later family's looks); each row that meets fmt, with fmt's text TOLD by the authors' own Lean function (tested against real Go, not proved from fmt's source: count such statements apart). THE CARD IS WHAT COUNTS. Prove the row's statement (the work); the ties are given (Qxb6615735aDoorTie.lean); close each card by the builder's one call (the guide's Derived/Test/ToyasCard.lean, 'card_holds'). Laid BY PROGRAM, IN A SANDBOX (cutbox-door.mjs). By AI agents, Wed Nov 11 2026. No macro, syntax, notation, axiom, sorry.
-/
import Derived.Test.Qxb6615735aDoorRows
import GoSem.ClaimSeven
namespace Go.Proofs.Qxb6615735aDoor
namespace Rows

/-- THE TIED CARD OF 'zzlaws_internal_protocol_b1.FnPlaceTwoInARowStickyRefusal'. -/
def fnPlaceTwoInARowStickyRefusalCard : Claim7 := { stood := { row := fnPlaceTwoInARowStickyRefusalRow, standIns := [], harness := (true, "f4fa78b8bc09025931f7edb5e27cd2b121222f73cb13ed00ec02f057e4bcf86a"), looks := false }, kinds := [], alts := [], laidByText := true, laidKinds := [.sentinel], laidTests := true, laidLooks := .later }
def FnPlaceTwoInARowStickyRefusalCardSaid : Prop := Claim7.holds Tryd.pinned (.plain (OpenSpec.ofChange fnPlaceTwoInARowStickyRefusalSpec)) fnPlaceTwoInARowStickyRefusalCard

/-- THE TIED CARD OF 'zzlaws_internal_protocol_b1.FnPlaceIgnoresBytesBehindItsVarint'. -/
def fnPlaceIgnoresBytesBehindItsVarintCard : Claim7 := { stood := { row := fnPlaceIgnoresBytesBehindItsVarintRow, standIns := [], harness := (true, "f4fa78b8bc09025931f7edb5e27cd2b121222f73cb13ed00ec02f057e4bcf86a"), looks := false }, kinds := [], alts := [], laidByText := true, laidKinds := [.sentinel], laidTests := true, laidLooks := .later }
def FnPlaceIgnoresBytesBehindItsVarintCardSaid : Prop := Claim7.holds Tryd.pinned (.plain (OpenSpec.ofChange fnPlaceIgnoresBytesBehindItsVarintSpec)) fnPlaceIgnoresBytesBehindItsVarintCard
end Rows
end Go.Proofs.Qxb6615735aDoor
