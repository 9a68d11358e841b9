/-
  No cell of these rows narrows 'for every input' (looked for: loops, veiled, ifaces, maps, wideKeys, modest, calm, conditions, laid).
  DERIVED. THE GIVEN ROWS OF THIS SEAT. 4 by the template 'for every input the law returns true; each argument reads behind the call as it read before'; 0 by the template 'total and deterministic' (their statements: YbulkcrayTotals.lean).
  GIVEN WITH THE SEED: the statements are not yours to turn. If you find one false, say at which input.
  Laid BY PROGRAM, IN A SANDBOX (cutbox-rows.mjs): the forced cells as the released guide's own fill.sh prints them over the translation 7c5aa26e99334879… (all of the seat's roots in one cut). By AI agents, Wed Nov 11 2026. No macro, syntax, notation, axiom, sorry.
-/
import Derived.Test.YbulkcrayChecked
import GoSem.Claim
import GoSem.ClaimJoined
import GoSem.ClaimMapViews
import Derived.JoinedTies
import Derived.KernelRfl
namespace Go.Proofs.Ybulkcray
/- THE CELL 'sum', in the pinned program and in every row, IS THE sha256 OF THE DUMP (.gsa) THAT YbulkcrayProg.lean LOADS. Nothing in Lean hashes anything: it is a label: what it is worth is what the hold of that sum in a sandbox is worth. -/
noncomputable def Yba.pinned : Pinned := { name := "ybulkcray", sum := "7c5aa26e99334879a80db385dd0b809e9b722b6642c359cf8e905e78aed4c2e0", checked := Yba.checked }
namespace Rows
def none {H : Type} : Left H := { results := [], args := [] }

/-- 'sched.LawS4639BExact': WHATEVER THE INPUT: true; the input reads as it did. -/
def lawS4639BExactSpec : ChangeSpec := { name := "lawS4639BExact", fn := fun _ => fun
  | [d1, d2, d3, d4] => { results := [.lit (.bool true)], args := [d1, d2, d3, d4] }
  | _ => none }
def lawS4639BExactRow : OpenClaim := { program := "ybulkcray", sum := "7c5aa26e99334879a80db385dd0b809e9b722b6642c359cf8e905e78aed4c2e0", func := "example.com/evenkeel/evenkeel/internal/sched.LawS4639BExact", spec := "lawS4639BExact", apart := false }
def LawS4639BExactSaid : Prop := lawS4639BExactRow.holds Yba.pinned (OpenSpec.ofChange lawS4639BExactSpec)

/-- ITS FALSE NEIGHBOUR: 'it returns false'. Refute it at one input. -/
def lawS4639BExactWrong : ChangeSpec := { name := "lawS4639BExact", fn := fun _ => fun
  | [d1, d2, d3, d4] => { results := [.lit (.bool false)], args := [d1, d2, d3, d4] }
  | _ => none }
def LawS4639BExactWrongFalsely : Prop := lawS4639BExactRow.holds Yba.pinned (OpenSpec.ofChange lawS4639BExactWrong)

/-- 'sched.LawS4639BRoundTrip': WHATEVER THE INPUT: true; the input reads as it did. -/
def lawS4639BRoundTripSpec : ChangeSpec := { name := "lawS4639BRoundTrip", fn := fun _ => fun
  | [d1, d2, d3] => { results := [.lit (.bool true)], args := [d1, d2, d3] }
  | _ => none }
def lawS4639BRoundTripRow : OpenClaim := { program := "ybulkcray", sum := "7c5aa26e99334879a80db385dd0b809e9b722b6642c359cf8e905e78aed4c2e0", func := "example.com/evenkeel/evenkeel/internal/sched.LawS4639BRoundTrip", spec := "lawS4639BRoundTrip", apart := false }
def LawS4639BRoundTripSaid : Prop := lawS4639BRoundTripRow.holds Yba.pinned (OpenSpec.ofChange lawS4639BRoundTripSpec)

/-- ITS FALSE NEIGHBOUR: 'it returns false'. Refute it at one input. -/
def lawS4639BRoundTripWrong : ChangeSpec := { name := "lawS4639BRoundTrip", fn := fun _ => fun
  | [d1, d2, d3] => { results := [.lit (.bool false)], args := [d1, d2, d3] }
  | _ => none }
def LawS4639BRoundTripWrongFalsely : Prop := lawS4639BRoundTripRow.holds Yba.pinned (OpenSpec.ofChange lawS4639BRoundTripWrong)

/-- 'serve.LawS4639CPart': WHATEVER THE INPUT: true; the input reads as it did. -/
def lawS4639CPartSpec : ChangeSpec := { name := "lawS4639CPart", fn := fun _ => fun
  | [d1, d2, d3, d4, d5] => { results := [.lit (.bool true)], args := [d1, d2, d3, d4, d5] }
  | _ => none }
def lawS4639CPartRow : OpenClaim := { program := "ybulkcray", sum := "7c5aa26e99334879a80db385dd0b809e9b722b6642c359cf8e905e78aed4c2e0", func := "example.com/evenkeel/evenkeel/internal/serve.LawS4639CPart", spec := "lawS4639CPart", apart := false }
def LawS4639CPartSaid : Prop := lawS4639CPartRow.holds Yba.pinned (OpenSpec.ofChange lawS4639CPartSpec)

/-- ITS FALSE NEIGHBOUR: 'it returns false'. Refute it at one input. -/
def lawS4639CPartWrong : ChangeSpec := { name := "lawS4639CPart", fn := fun _ => fun
  | [d1, d2, d3, d4, d5] => { results := [.lit (.bool false)], args := [d1, d2, d3, d4, d5] }
  | _ => none }
def LawS4639CPartWrongFalsely : Prop := lawS4639CPartRow.holds Yba.pinned (OpenSpec.ofChange lawS4639CPartWrong)

/-- 'serve.LawS4639CSample': WHATEVER THE INPUT: true; the input reads as it did. -/
def lawS4639CSampleSpec : ChangeSpec := { name := "lawS4639CSample", fn := fun _ => fun
  | [d1, d2, d3, d4] => { results := [.lit (.bool true)], args := [d1, d2, d3, d4] }
  | _ => none }
def lawS4639CSampleRow : OpenClaim := { program := "ybulkcray", sum := "7c5aa26e99334879a80db385dd0b809e9b722b6642c359cf8e905e78aed4c2e0", func := "example.com/evenkeel/evenkeel/internal/serve.LawS4639CSample", spec := "lawS4639CSample", apart := false }
def LawS4639CSampleSaid : Prop := lawS4639CSampleRow.holds Yba.pinned (OpenSpec.ofChange lawS4639CSampleSpec)

/-- ITS FALSE NEIGHBOUR: 'it returns false'. Refute it at one input. -/
def lawS4639CSampleWrong : ChangeSpec := { name := "lawS4639CSample", fn := fun _ => fun
  | [d1, d2, d3, d4] => { results := [.lit (.bool false)], args := [d1, d2, d3, d4] }
  | _ => none }
def LawS4639CSampleWrongFalsely : Prop := lawS4639CSampleRow.holds Yba.pinned (OpenSpec.ofChange lawS4639CSampleWrong)

end Rows
end Go.Proofs.Ybulkcray
