/-
  No cell of these rows narrows 'for every input' (looked for: loops, veiled, ifaces, maps, wideKeys, modest, calm, conditions, laid).
  DERIVED. THE GIVEN ROWS OF THIS SEAT. 1 by the template 'for every input the law returns true; each argument reads behind the call as it read before'; 0 by the template 'total and deterministic' (their statements: YbulkcrrcTotals.lean).
  GIVEN WITH THE SEED: the statements are not yours to turn. If you find one false, say at which input.
  Laid BY PROGRAM, IN A SANDBOX (cutbox-rows.mjs): the forced cells as the released guide's own fill.sh prints them over the translation 57fc76b470b433fc… (all of the seat's roots in one cut). By AI agents, Wed Nov 11 2026. No macro, syntax, notation, axiom, sorry.
-/
import Derived.Test.YbulkcrrcChecked
import GoSem.Claim
import GoSem.ClaimJoined
import GoSem.ClaimMapViews
import Derived.JoinedTies
import Derived.KernelRfl
namespace Go.Proofs.Ybulkcrrc
/- THE CELL 'sum', in the pinned program and in every row, IS THE sha256 OF THE DUMP (.gsa) THAT YbulkcrrcProg.lean LOADS. Nothing in Lean hashes anything: it is a label: what it is worth is what the hold of that sum in a sandbox is worth. -/
noncomputable def Yba.pinned : Pinned := { name := "ybulkcrrc", sum := "57fc76b470b433fc4ea90258439d4af2d59063e893beaa2ab39eb2caf784070a", checked := Yba.checked }
namespace Rows
def none {H : Type} : Left H := { results := [], args := [] }

/-- 'kernel.LawS4669AAt': WHATEVER THE INPUT: true; the input reads as it did. -/
def lawS4669AAtSpec : ChangeSpec := { name := "lawS4669AAt", fn := fun _ => fun
  | [d1, d2, d3] => { results := [.lit (.bool true)], args := [d1, d2, d3] }
  | _ => none }
def lawS4669AAtRow : OpenClaim := { program := "ybulkcrrc", sum := "57fc76b470b433fc4ea90258439d4af2d59063e893beaa2ab39eb2caf784070a", func := "example.com/ringzero/ringzero/internal/kernel.LawS4669AAt", spec := "lawS4669AAt", unfollowed := true, recurses := true, apart := false }
def LawS4669AAtSaid : Prop := lawS4669AAtRow.holds Yba.pinned (OpenSpec.ofChange lawS4669AAtSpec)

/-- ITS FALSE NEIGHBOUR: 'it returns false'. Refute it at one input. -/
def lawS4669AAtWrong : ChangeSpec := { name := "lawS4669AAt", fn := fun _ => fun
  | [d1, d2, d3] => { results := [.lit (.bool false)], args := [d1, d2, d3] }
  | _ => none }
def LawS4669AAtWrongFalsely : Prop := lawS4669AAtRow.holds Yba.pinned (OpenSpec.ofChange lawS4669AAtWrong)

end Rows
end Go.Proofs.Ybulkcrrc
