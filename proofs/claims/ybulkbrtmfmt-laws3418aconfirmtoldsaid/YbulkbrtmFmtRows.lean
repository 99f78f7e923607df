/-
  No cell of these rows narrows 'for every input' (looked for: loops, veiled, ifaces, maps, wideKeys, modest, calm, conditions, laid).
  DERIVED. THE GIVEN ROWS OF THIS SEAT. 2 by the template 'for every input the law returns true; each argument reads behind the call as it read before'; 0 by the template 'total and deterministic' (their statements: YbulkbrtmFmtTotals.lean).
  GIVEN WITH THE SEED: the statements are not yours to turn. If you find one false, say at which input.
  Laid BY PROGRAM, IN A SANDBOX (cutbox-rows.mjs): the forced cells as the released guide's own fill.sh prints them over the translation 944edd83c7edf20b… (all of the seat's roots in one cut). By AI agents, Wed Nov 11 2026. No macro, syntax, notation, axiom, sorry.
-/
import Derived.Test.YbulkbrtmFmtChecked
import GoSem.Claim
import GoSem.ClaimJoined
import GoSem.ClaimMapViews
import Derived.JoinedTies
import Derived.KernelRfl
namespace Go.Proofs.YbulkbrtmFmt
/- THE CELL 'sum', in the pinned program and in every row, IS THE sha256 OF THE DUMP (.gsa) THAT YbulkbrtmFmtProg.lean LOADS. Nothing in Lean hashes anything: it is a label: what it is worth is what the hold of that sum in a sandbox is worth. -/
noncomputable def Ybaf.pinned : Pinned := { name := "ybulkbrtmfmt", sum := "944edd83c7edf20b799b21e7e1955e413b4a8277830a8f1e64791f22688f226d", checked := Ybaf.checked }
namespace Rows
def none {H : Type} : Left H := { results := [], args := [] }

/-- 'search.LawS3418AConfirm': WHATEVER THE INPUT: true; the input reads as it did. -/
def lawS3418AConfirmSpec : ChangeSpec := { name := "lawS3418AConfirm", fn := fun _ => fun
  | [d1, d2, d3, d4, d5, d6, d7] => { results := [.lit (.bool true)], args := [d1, d2, d3, d4, d5, d6, d7] }
  | _ => none }
def lawS3418AConfirmRow : OpenClaim := { program := "ybulkbrtmfmt", sum := "944edd83c7edf20b799b21e7e1955e413b4a8277830a8f1e64791f22688f226d", func := "example.com/culprit/culprit/internal/search.LawS3418AConfirm", spec := "lawS3418AConfirm", stops := ["fmt.Sprintf", "fmt.errorf, its operands' methods called"], inPlace := ["fmt.Sprintf", "internal/abi.NoEscape", "internal/bytealg.MakeNoZero", "fmt.errorf"], unfollowed := true, recurses := true, apart := false }
/-- NO THEOREM (fmt's text is open here; it may be false): for the released tool's asking of the row's closed facts alone. THE STATEMENT IS 'LawS3418AConfirmToldSaid' (YbulkbrtmFmtCards.lean). -/
def LawS3418AConfirmFormAsk : Prop := lawS3418AConfirmRow.holds Ybaf.pinned (OpenSpec.ofChange lawS3418AConfirmSpec)

/-- ITS FALSE NEIGHBOUR: 'it returns false'. Refute it at one input. -/
def lawS3418AConfirmWrong : ChangeSpec := { name := "lawS3418AConfirm", fn := fun _ => fun
  | [d1, d2, d3, d4, d5, d6, d7] => { results := [.lit (.bool false)], args := [d1, d2, d3, d4, d5, d6, d7] }
  | _ => none }
def LawS3418AConfirmWrongFormAsk : Prop := lawS3418AConfirmRow.holds Ybaf.pinned (OpenSpec.ofChange lawS3418AConfirmWrong)

/-- 'search.LawS3418ARunError': WHATEVER THE INPUT: true; the input reads as it did. -/
def lawS3418ARunErrorSpec : ChangeSpec := { name := "lawS3418ARunError", fn := fun _ => fun
  | [d1, d2, d3, d4, d5] => { results := [.lit (.bool true)], args := [d1, d2, d3, d4, d5] }
  | _ => none }
def lawS3418ARunErrorRow : OpenClaim := { program := "ybulkbrtmfmt", sum := "944edd83c7edf20b799b21e7e1955e413b4a8277830a8f1e64791f22688f226d", func := "example.com/culprit/culprit/internal/search.LawS3418ARunError", spec := "lawS3418ARunError", stops := ["fmt.Sprintf", "fmt.errorf, its operands' methods called"], inPlace := ["fmt.Sprintf", "internal/abi.NoEscape", "internal/bytealg.MakeNoZero", "fmt.errorf", "internal/reflectlite.TypeOf"], unfollowed := true, recurses := true, apart := false }
/-- NO THEOREM (fmt's text is open here; it may be false): for the released tool's asking of the row's closed facts alone. THE STATEMENT IS 'LawS3418ARunErrorToldSaid' (YbulkbrtmFmtCards.lean). -/
def LawS3418ARunErrorFormAsk : Prop := lawS3418ARunErrorRow.holds Ybaf.pinned (OpenSpec.ofChange lawS3418ARunErrorSpec)

/-- ITS FALSE NEIGHBOUR: 'it returns false'. Refute it at one input. -/
def lawS3418ARunErrorWrong : ChangeSpec := { name := "lawS3418ARunError", fn := fun _ => fun
  | [d1, d2, d3, d4, d5] => { results := [.lit (.bool false)], args := [d1, d2, d3, d4, d5] }
  | _ => none }
def LawS3418ARunErrorWrongFormAsk : Prop := lawS3418ARunErrorRow.holds Ybaf.pinned (OpenSpec.ofChange lawS3418ARunErrorWrong)

end Rows
end Go.Proofs.YbulkbrtmFmt
