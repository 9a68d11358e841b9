/-
  No cell of these rows narrows 'for every input' (looked for: loops, veiled, ifaces, maps, wideKeys, modest, calm, conditions, laid).
  DERIVED. THE GIVEN ROWS OF THIS SEAT. 3 by the template 'for every input the law returns true; each argument reads behind the call as it read before'; 0 by the template 'total and deterministic' (their statements: YbulkcrcaTotals.lean).
  GIVEN WITH THE SEED: the statements are not yours to turn. If you find one false, say at which input.
  Laid BY PROGRAM, IN A SANDBOX (cutbox-rows.mjs): the forced cells as the released guide's own fill.sh prints them over the translation 35c72c30eabdbed0… (all of the seat's roots in one cut). By AI agents, Wed Nov 11 2026. No macro, syntax, notation, axiom, sorry.
-/
import Derived.Test.YbulkcrcaChecked
import GoSem.Claim
import GoSem.ClaimJoined
import GoSem.ClaimMapViews
import Derived.JoinedTies
import Derived.KernelRfl
namespace Go.Proofs.Ybulkcrca
/- THE CELL 'sum', in the pinned program and in every row, IS THE sha256 OF THE DUMP (.gsa) THAT YbulkcrcaProg.lean LOADS. Nothing in Lean hashes anything: it is a label: what it is worth is what the hold of that sum in a sandbox is worth. -/
noncomputable def Yba.pinned : Pinned := { name := "ybulkcrca", sum := "35c72c30eabdbed00e992dd46197e2b2d24a9514e04806e87427b2ed84b71794", checked := Yba.checked }
namespace Rows
def none {H : Type} : Left H := { results := [], args := [] }

/-- 'signing.LawS4641BModel': WHATEVER THE INPUT: true; the input reads as it did. -/
def lawS4641BModelSpec : ChangeSpec := { name := "lawS4641BModel", fn := fun _ => fun
  | [d1, d2, d3] => { results := [.lit (.bool true)], args := [d1, d2, d3] }
  | _ => none }
def lawS4641BModelRow : OpenClaim := { program := "ybulkcrca", sum := "35c72c30eabdbed00e992dd46197e2b2d24a9514e04806e87427b2ed84b71794", func := "example.com/countersign/countersign/internal/signing.LawS4641BModel", spec := "lawS4641BModel", apart := false }
def LawS4641BModelSaid : Prop := lawS4641BModelRow.holds Yba.pinned (OpenSpec.ofChange lawS4641BModelSpec)

/-- ITS FALSE NEIGHBOUR: 'it returns false'. Refute it at one input. -/
def lawS4641BModelWrong : ChangeSpec := { name := "lawS4641BModel", fn := fun _ => fun
  | [d1, d2, d3] => { results := [.lit (.bool false)], args := [d1, d2, d3] }
  | _ => none }
def LawS4641BModelWrongFalsely : Prop := lawS4641BModelRow.holds Yba.pinned (OpenSpec.ofChange lawS4641BModelWrong)

/-- 'signing.LawS4641BSymmetric': WHATEVER THE INPUT: true; the input reads as it did. -/
def lawS4641BSymmetricSpec : ChangeSpec := { name := "lawS4641BSymmetric", fn := fun _ => fun
  | [d1, d2, d3] => { results := [.lit (.bool true)], args := [d1, d2, d3] }
  | _ => none }
def lawS4641BSymmetricRow : OpenClaim := { program := "ybulkcrca", sum := "35c72c30eabdbed00e992dd46197e2b2d24a9514e04806e87427b2ed84b71794", func := "example.com/countersign/countersign/internal/signing.LawS4641BSymmetric", spec := "lawS4641BSymmetric", apart := false }
def LawS4641BSymmetricSaid : Prop := lawS4641BSymmetricRow.holds Yba.pinned (OpenSpec.ofChange lawS4641BSymmetricSpec)

/-- ITS FALSE NEIGHBOUR: 'it returns false'. Refute it at one input. -/
def lawS4641BSymmetricWrong : ChangeSpec := { name := "lawS4641BSymmetric", fn := fun _ => fun
  | [d1, d2, d3] => { results := [.lit (.bool false)], args := [d1, d2, d3] }
  | _ => none }
def LawS4641BSymmetricWrongFalsely : Prop := lawS4641BSymmetricRow.holds Yba.pinned (OpenSpec.ofChange lawS4641BSymmetricWrong)

/-- 'signing.LawS4641BEdges': WHATEVER THE INPUT: true; the input reads as it did. -/
def lawS4641BEdgesSpec : ChangeSpec := { name := "lawS4641BEdges", fn := fun _ => fun
  | [d1, d2] => { results := [.lit (.bool true)], args := [d1, d2] }
  | _ => none }
def lawS4641BEdgesRow : OpenClaim := { program := "ybulkcrca", sum := "35c72c30eabdbed00e992dd46197e2b2d24a9514e04806e87427b2ed84b71794", func := "example.com/countersign/countersign/internal/signing.LawS4641BEdges", spec := "lawS4641BEdges", apart := false }
def LawS4641BEdgesSaid : Prop := lawS4641BEdgesRow.holds Yba.pinned (OpenSpec.ofChange lawS4641BEdgesSpec)

/-- ITS FALSE NEIGHBOUR: 'it returns false'. Refute it at one input. -/
def lawS4641BEdgesWrong : ChangeSpec := { name := "lawS4641BEdges", fn := fun _ => fun
  | [d1, d2] => { results := [.lit (.bool false)], args := [d1, d2] }
  | _ => none }
def LawS4641BEdgesWrongFalsely : Prop := lawS4641BEdgesRow.holds Yba.pinned (OpenSpec.ofChange lawS4641BEdgesWrong)

end Rows
end Go.Proofs.Ybulkcrca
