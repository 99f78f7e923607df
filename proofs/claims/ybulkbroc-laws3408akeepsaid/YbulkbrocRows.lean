/-
  No cell of these rows narrows 'for every input' (looked for: loops, veiled, ifaces, maps, wideKeys, modest, calm, conditions, laid).
  DERIVED. THE GIVEN ROWS OF THIS SEAT. 1 by the template 'for every input the law returns true; each argument reads behind the call as it read before'; 0 by the template 'total and deterministic' (their statements: YbulkbrocTotals.lean).
  GIVEN WITH THE SEED: the statements are not yours to turn. If you find one false, say at which input.
  Laid BY PROGRAM, IN A SANDBOX (cutbox-rows.mjs): the forced cells as the released guide's own fill.sh prints them over the translation 0c9047695581d644… (all of the seat's roots in one cut). By AI agents, Wed Nov 11 2026. No macro, syntax, notation, axiom, sorry.
-/
import Derived.Test.YbulkbrocChecked
import GoSem.Claim
import GoSem.ClaimJoined
import GoSem.ClaimMapViews
import Derived.JoinedTies
import Derived.KernelRfl
namespace Go.Proofs.Ybulkbroc
/- THE CELL 'sum', in the pinned program and in every row, IS THE sha256 OF THE DUMP (.gsa) THAT YbulkbrocProg.lean LOADS. Nothing in Lean hashes anything: it is a label: what it is worth is what the hold of that sum in a sandbox is worth. -/
noncomputable def Yba.pinned : Pinned := { name := "ybulkbroc", sum := "0c9047695581d644dcb34cbc17e2a3893753302b288af4c72af370234cc0b0ba", checked := Yba.checked }
namespace Rows
def none {H : Type} : Left H := { results := [], args := [] }

/-- 'ringfold.LawS3408AKeep': WHATEVER THE INPUT: true; the input reads as it did. -/
def lawS3408AKeepSpec : ChangeSpec := { name := "lawS3408AKeep", fn := fun _ => fun
  | [d1, d2, d3] => { results := [.lit (.bool true)], args := [d1, d2, d3] }
  | _ => none }
def lawS3408AKeepRow : OpenClaim := { program := "ybulkbroc", sum := "0c9047695581d644dcb34cbc17e2a3893753302b288af4c72af370234cc0b0ba", func := "example.com/ringfold/ringfold.LawS3408AKeep", spec := "lawS3408AKeep", apart := false }
def LawS3408AKeepSaid : Prop := lawS3408AKeepRow.holds Yba.pinned (OpenSpec.ofChange lawS3408AKeepSpec)

/-- ITS FALSE NEIGHBOUR: 'it returns false'. Refute it at one input. -/
def lawS3408AKeepWrong : ChangeSpec := { name := "lawS3408AKeep", fn := fun _ => fun
  | [d1, d2, d3] => { results := [.lit (.bool false)], args := [d1, d2, d3] }
  | _ => none }
def LawS3408AKeepWrongFalsely : Prop := lawS3408AKeepRow.holds Yba.pinned (OpenSpec.ofChange lawS3408AKeepWrong)

end Rows
end Go.Proofs.Ybulkbroc
