/-
  No cell of these rows narrows 'for every input' (looked for: loops, veiled, ifaces, maps, wideKeys, modest, calm, conditions, laid).
  DERIVED. THE GIVEN ROWS OF THIS SEAT. 1 by the template 'for every input the law returns true; each argument reads behind the call as it read before'; 0 by the template 'total and deterministic' (their statements: YbulkbruaTotals.lean).
  GIVEN WITH THE SEED: the statements are not yours to turn. If you find one false, say at which input.
  Laid BY PROGRAM, IN A SANDBOX (cutbox-rows.mjs): the forced cells as the released guide's own fill.sh prints them over the translation a008451dc0a52f66… (all of the seat's roots in one cut). By AI agents, Wed Nov 11 2026. No macro, syntax, notation, axiom, sorry.
-/
import Derived.Test.YbulkbruaChecked
import GoSem.Claim
import GoSem.ClaimJoined
import GoSem.ClaimMapViews
import Derived.JoinedTies
import Derived.KernelRfl
namespace Go.Proofs.Ybulkbrua
/- THE CELL 'sum', in the pinned program and in every row, IS THE sha256 OF THE DUMP (.gsa) THAT YbulkbruaProg.lean LOADS. Nothing in Lean hashes anything: it is a label: what it is worth is what the hold of that sum in a sandbox is worth. -/
noncomputable def Yba.pinned : Pinned := { name := "ybulkbrua", sum := "a008451dc0a52f66bcb555eb62f63b0e1e6c22bcfec1cc49ad0066644f2d8bba", checked := Yba.checked }
namespace Rows
def none {H : Type} : Left H := { results := [], args := [] }

/-- 'ue.LawS3419CModel': WHATEVER THE INPUT: true; the input reads as it did. -/
def lawS3419CModelSpec : ChangeSpec := { name := "lawS3419CModel", fn := fun _ => fun
  | [d1, d2, d3, d4] => { results := [.lit (.bool true)], args := [d1, d2, d3, d4] }
  | _ => none }
def lawS3419CModelRow : OpenClaim := { program := "ybulkbrua", sum := "a008451dc0a52f66bcb555eb62f63b0e1e6c22bcfec1cc49ad0066644f2d8bba", func := "example.com/hawser/hawser/ue.LawS3419CModel", spec := "lawS3419CModel", apart := false }
def LawS3419CModelSaid : Prop := lawS3419CModelRow.holds Yba.pinned (OpenSpec.ofChange lawS3419CModelSpec)

/-- ITS FALSE NEIGHBOUR: 'it returns false'. Refute it at one input. -/
def lawS3419CModelWrong : ChangeSpec := { name := "lawS3419CModel", fn := fun _ => fun
  | [d1, d2, d3, d4] => { results := [.lit (.bool false)], args := [d1, d2, d3, d4] }
  | _ => none }
def LawS3419CModelWrongFalsely : Prop := lawS3419CModelRow.holds Yba.pinned (OpenSpec.ofChange lawS3419CModelWrong)

end Rows
end Go.Proofs.Ybulkbrua
