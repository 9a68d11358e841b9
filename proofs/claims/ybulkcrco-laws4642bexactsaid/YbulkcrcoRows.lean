/-
  No cell of these rows narrows 'for every input' (looked for: loops, veiled, ifaces, maps, wideKeys, modest, calm, conditions, laid).
  DERIVED. THE GIVEN ROWS OF THIS SEAT. 2 by the template 'for every input the law returns true; each argument reads behind the call as it read before'; 0 by the template 'total and deterministic' (their statements: YbulkcrcoTotals.lean).
  GIVEN WITH THE SEED: the statements are not yours to turn. If you find one false, say at which input.
  Laid BY PROGRAM, IN A SANDBOX (cutbox-rows.mjs): the forced cells as the released guide's own fill.sh prints them over the translation cbc53db63d426bd7… (all of the seat's roots in one cut). By AI agents, Wed Nov 11 2026. No macro, syntax, notation, axiom, sorry.
-/
import Derived.Test.YbulkcrcoChecked
import GoSem.Claim
import GoSem.ClaimJoined
import GoSem.ClaimMapViews
import Derived.JoinedTies
import Derived.KernelRfl
namespace Go.Proofs.Ybulkcrco
/- THE CELL 'sum', in the pinned program and in every row, IS THE sha256 OF THE DUMP (.gsa) THAT YbulkcrcoProg.lean LOADS. Nothing in Lean hashes anything: it is a label: what it is worth is what the hold of that sum in a sandbox is worth. -/
noncomputable def Yba.pinned : Pinned := { name := "ybulkcrco", sum := "cbc53db63d426bd78ce251946be1bb92610813f75d189fce9fead716013dc3ba", checked := Yba.checked }
namespace Rows
def none {H : Type} : Left H := { results := [], args := [] }

/-- 'voronoi.LawS4642BExact': WHATEVER THE INPUT: true; the input reads as it did. -/
def lawS4642BExactSpec : ChangeSpec := { name := "lawS4642BExact", fn := fun _ => fun
  | [d1, d2, d3, d4, d5, d6] => { results := [.lit (.bool true)], args := [d1, d2, d3, d4, d5, d6] }
  | _ => none }
def lawS4642BExactRow : OpenClaim := { program := "ybulkcrco", sum := "cbc53db63d426bd78ce251946be1bb92610813f75d189fce9fead716013dc3ba", func := "example.com/delaunet/delaunet/internal/voronoi.LawS4642BExact", spec := "lawS4642BExact", inPlace := ["math.Float64bits"], apart := false }
def LawS4642BExactSaid : Prop := lawS4642BExactRow.holds Yba.pinned (OpenSpec.ofChange lawS4642BExactSpec)

/-- ITS FALSE NEIGHBOUR: 'it returns false'. Refute it at one input. -/
def lawS4642BExactWrong : ChangeSpec := { name := "lawS4642BExact", fn := fun _ => fun
  | [d1, d2, d3, d4, d5, d6] => { results := [.lit (.bool false)], args := [d1, d2, d3, d4, d5, d6] }
  | _ => none }
def LawS4642BExactWrongFalsely : Prop := lawS4642BExactRow.holds Yba.pinned (OpenSpec.ofChange lawS4642BExactWrong)

/-- 'voronoi.LawS4642BShape': WHATEVER THE INPUT: true; the input reads as it did. -/
def lawS4642BShapeSpec : ChangeSpec := { name := "lawS4642BShape", fn := fun _ => fun
  | [d1, d2, d3, d4, d5, d6] => { results := [.lit (.bool true)], args := [d1, d2, d3, d4, d5, d6] }
  | _ => none }
def lawS4642BShapeRow : OpenClaim := { program := "ybulkcrco", sum := "cbc53db63d426bd78ce251946be1bb92610813f75d189fce9fead716013dc3ba", func := "example.com/delaunet/delaunet/internal/voronoi.LawS4642BShape", spec := "lawS4642BShape", apart := false }
def LawS4642BShapeSaid : Prop := lawS4642BShapeRow.holds Yba.pinned (OpenSpec.ofChange lawS4642BShapeSpec)

/-- ITS FALSE NEIGHBOUR: 'it returns false'. Refute it at one input. -/
def lawS4642BShapeWrong : ChangeSpec := { name := "lawS4642BShape", fn := fun _ => fun
  | [d1, d2, d3, d4, d5, d6] => { results := [.lit (.bool false)], args := [d1, d2, d3, d4, d5, d6] }
  | _ => none }
def LawS4642BShapeWrongFalsely : Prop := lawS4642BShapeRow.holds Yba.pinned (OpenSpec.ofChange lawS4642BShapeWrong)

end Rows
end Go.Proofs.Ybulkcrco
