/-
  No cell of these rows narrows 'for every input' (looked for: loops, veiled, ifaces, maps, wideKeys, modest, calm, conditions, laid).
  DERIVED. THE GIVEN ROWS OF THIS SEAT. 3 by the template 'for every input the law returns true; each argument reads behind the call as it read before'; 0 by the template 'total and deterministic' (their statements: YbulkbrrwTotals.lean).
  GIVEN WITH THE SEED: the statements are not yours to turn. If you find one false, say at which input.
  Laid BY PROGRAM, IN A SANDBOX (cutbox-rows.mjs): the forced cells as the released guide's own fill.sh prints them over the translation 3b3f9a7dc3c9605c… (all of the seat's roots in one cut). By AI agents, Wed Nov 11 2026. No macro, syntax, notation, axiom, sorry.
-/
import Derived.Test.YbulkbrrwChecked
import GoSem.Claim
import GoSem.ClaimJoined
import GoSem.ClaimMapViews
import Derived.JoinedTies
import Derived.KernelRfl
namespace Go.Proofs.Ybulkbrrw
/- THE CELL 'sum', in the pinned program and in every row, IS THE sha256 OF THE DUMP (.gsa) THAT YbulkbrrwProg.lean LOADS. Nothing in Lean hashes anything: it is a label: what it is worth is what the hold of that sum in a sandbox is worth. -/
noncomputable def Yba.pinned : Pinned := { name := "ybulkbrrw", sum := "3b3f9a7dc3c9605ca29d611f2aa15ed9383e86540846e4156dd10faa63361277", checked := Yba.checked }
namespace Rows
def none {H : Type} : Left H := { results := [], args := [] }

/-- 'queue.LawS3415BMove': WHATEVER THE INPUT: true; the input reads as it did. -/
def lawS3415BMoveSpec : ChangeSpec := { name := "lawS3415BMove", fn := fun _ => fun
  | [d1, d2, d3, d4, d5, d6, d7, d8] => { results := [.lit (.bool true)], args := [d1, d2, d3, d4, d5, d6, d7, d8] }
  | _ => none }
def lawS3415BMoveRow : OpenClaim := { program := "ybulkbrrw", sum := "3b3f9a7dc3c9605ca29d611f2aa15ed9383e86540846e4156dd10faa63361277", func := "example.com/busyline/busyline/internal/queue.LawS3415BMove", spec := "lawS3415BMove", unfollowed := true, recurses := true, apart := false }
def LawS3415BMoveSaid : Prop := lawS3415BMoveRow.holds Yba.pinned (OpenSpec.ofChange lawS3415BMoveSpec)

/-- ITS FALSE NEIGHBOUR: 'it returns false'. Refute it at one input. -/
def lawS3415BMoveWrong : ChangeSpec := { name := "lawS3415BMove", fn := fun _ => fun
  | [d1, d2, d3, d4, d5, d6, d7, d8] => { results := [.lit (.bool false)], args := [d1, d2, d3, d4, d5, d6, d7, d8] }
  | _ => none }
def LawS3415BMoveWrongFalsely : Prop := lawS3415BMoveRow.holds Yba.pinned (OpenSpec.ofChange lawS3415BMoveWrong)

/-- 'queue.LawS3415CWalk': WHATEVER THE INPUT: true; the input reads as it did. -/
def lawS3415CWalkSpec : ChangeSpec := { name := "lawS3415CWalk", fn := fun _ => fun
  | [d1, d2] => { results := [.lit (.bool true)], args := [d1, d2] }
  | _ => none }
def lawS3415CWalkRow : OpenClaim := { program := "ybulkbrrw", sum := "3b3f9a7dc3c9605ca29d611f2aa15ed9383e86540846e4156dd10faa63361277", func := "example.com/busyline/busyline/internal/queue.LawS3415CWalk", spec := "lawS3415CWalk", unfollowed := true, recurses := true, apart := false }
def LawS3415CWalkSaid : Prop := lawS3415CWalkRow.holds Yba.pinned (OpenSpec.ofChange lawS3415CWalkSpec)

/-- ITS FALSE NEIGHBOUR: 'it returns false'. Refute it at one input. -/
def lawS3415CWalkWrong : ChangeSpec := { name := "lawS3415CWalk", fn := fun _ => fun
  | [d1, d2] => { results := [.lit (.bool false)], args := [d1, d2] }
  | _ => none }
def LawS3415CWalkWrongFalsely : Prop := lawS3415CWalkRow.holds Yba.pinned (OpenSpec.ofChange lawS3415CWalkWrong)

/-- 'queue.LawS3415CStop': WHATEVER THE INPUT: true; the input reads as it did. -/
def lawS3415CStopSpec : ChangeSpec := { name := "lawS3415CStop", fn := fun _ => fun
  | [d1, d2, d3] => { results := [.lit (.bool true)], args := [d1, d2, d3] }
  | _ => none }
def lawS3415CStopRow : OpenClaim := { program := "ybulkbrrw", sum := "3b3f9a7dc3c9605ca29d611f2aa15ed9383e86540846e4156dd10faa63361277", func := "example.com/busyline/busyline/internal/queue.LawS3415CStop", spec := "lawS3415CStop", unfollowed := true, recurses := true, apart := false }
def LawS3415CStopSaid : Prop := lawS3415CStopRow.holds Yba.pinned (OpenSpec.ofChange lawS3415CStopSpec)

/-- ITS FALSE NEIGHBOUR: 'it returns false'. Refute it at one input. -/
def lawS3415CStopWrong : ChangeSpec := { name := "lawS3415CStop", fn := fun _ => fun
  | [d1, d2, d3] => { results := [.lit (.bool false)], args := [d1, d2, d3] }
  | _ => none }
def LawS3415CStopWrongFalsely : Prop := lawS3415CStopRow.holds Yba.pinned (OpenSpec.ofChange lawS3415CStopWrong)

end Rows
end Go.Proofs.Ybulkbrrw
