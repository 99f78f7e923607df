/-
  DERIVED. GIVEN WITH THE SEED: THE CARDS: each row of YbulkbrtmDoorRows.lean that lists a variable, with what it lists TIED to the program's text (the seventh form; the later family's looks); each row that meets fmt, with fmt's text TOLD by the authors' own Lean function (tested against real Go, not proved from fmt's source: count such statements apart). THE CARD IS WHAT COUNTS. Prove the row's statement (the work); the ties are given (YbulkbrtmDoorTie.lean); close each card by the builder's one call (the guide's Derived/Test/ToyasCard.lean, 'card_holds'). Laid BY PROGRAM, IN A SANDBOX (cutbox-door.mjs). By AI agents, Wed Nov 11 2026. No macro, syntax, notation, axiom, sorry.
-/
import Derived.Test.YbulkbrtmDoorRows
import GoSem.ClaimSeven
namespace Go.Proofs.YbulkbrtmDoor
namespace Rows

/-- THE TIED CARD OF 'culprit.LawS3418CLine'. -/
def lawS3418CLineCard : Claim7 := { stood := { row := lawS3418CLineRow, standIns := [], harness := (true, "b818fa7c1d4db1dbde20a672c156784c6de7d369aaaaf76aa2b2e0de00e772ff"), looks := false }, kinds := [], alts := [], laidByText := true, laidKinds := [.data, .data, .data], laidTests := true, laidLooks := .later }
def LawS3418CLineCardSaid : Prop := Claim7.holds Ybad.pinned (.plain (OpenSpec.ofChange lawS3418CLineSpec)) lawS3418CLineCard
end Rows
end Go.Proofs.YbulkbrtmDoor
