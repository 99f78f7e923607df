/-
  DERIVED. GIVEN WITH THE SEED: THE CARDS: each row of YbulkbrtmFmtRows.lean that lists a variable, with what it lists TIED to the program's text (the seventh form; the later family's looks); each row that meets fmt, with fmt's text TOLD by the authors' own Lean function (tested against real Go, not proved from fmt's source: count such statements apart). THE CARD IS WHAT COUNTS. Prove the row's statement (the work); the ties are given (YbulkbrtmFmtTie.lean); close each card by the builder's one call (the guide's Derived/Test/ToyasCard.lean, 'card_holds'). Laid BY PROGRAM, IN A SANDBOX (cutbox-door.mjs). By AI agents, Wed Nov 11 2026. No macro, syntax, notation, axiom, sorry.
-/
import Derived.Test.YbulkbrtmFmtRows
import GoSem.ClaimSeven
namespace Go.Proofs.YbulkbrtmFmt
namespace Rows

/-- THE TOLD CARD OF 'search.LawS3418AConfirm'. -/
def lawS3418AConfirmCard : Claim7 := { stood := { row := lawS3418AConfirmRow, standIns := [], harness := (true, "7697f3b1efd229d7d0e50e8b2f31fea64c6bc0dea9d7f365cf4bb61e7982d356"), looks := true }, told := true, goes := false }
def LawS3418AConfirmToldSaid : Prop := Claim7.holds Ybaf.pinned (.plain (OpenSpec.ofChange lawS3418AConfirmSpec)) lawS3418AConfirmCard
/-- ITS FALSE NEIGHBOUR. Refute it at one input. -/
def LawS3418AConfirmToldWrongFalsely : Prop := Claim7.holds Ybaf.pinned (.plain (OpenSpec.ofChange lawS3418AConfirmWrong)) lawS3418AConfirmCard

/-- THE TOLD CARD OF 'search.LawS3418ARunError'. -/
def lawS3418ARunErrorCard : Claim7 := { stood := { row := lawS3418ARunErrorRow, standIns := [], harness := (true, "7697f3b1efd229d7d0e50e8b2f31fea64c6bc0dea9d7f365cf4bb61e7982d356"), looks := true }, told := true, goes := false }
def LawS3418ARunErrorToldSaid : Prop := Claim7.holds Ybaf.pinned (.plain (OpenSpec.ofChange lawS3418ARunErrorSpec)) lawS3418ARunErrorCard
/-- ITS FALSE NEIGHBOUR. Refute it at one input. -/
def LawS3418ARunErrorToldWrongFalsely : Prop := Claim7.holds Ybaf.pinned (.plain (OpenSpec.ofChange lawS3418ARunErrorWrong)) lawS3418ARunErrorCard
end Rows
end Go.Proofs.YbulkbrtmFmt
