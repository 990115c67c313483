/-
  No cell of these rows narrows 'for every input' (looked for: loops, veiled, ifaces, maps, wideKeys, modest, calm, conditions, laid).
  DERIVED. THE GIVEN ROWS OF THIS SEAT. 3 by the template 'for every input the law returns true; each argument reads behind the call as it read before'; 0 by the template 'total and deterministic' (their statements: YbulkcgqqTotals.lean).
  GIVEN WITH THE SEED: the statements are not yours to turn. If you find one false, say at which input.
  Laid BY PROGRAM, IN A SANDBOX (cutbox-rows.mjs): the forced cells as the released guide's own fill.sh prints them over the translation 07bc48eb2bd2367c… (all of the seat's roots in one cut). By AI agents, Wed Nov 11 2026. No macro, syntax, notation, axiom, sorry.
-/
import Derived.Test.YbulkcgqqChecked
import GoSem.Claim
import GoSem.ClaimJoined
import GoSem.ClaimMapViews
import Derived.JoinedTies
import Derived.KernelRfl
namespace Go.Proofs.Ybulkcgqq
/- THE CELL 'sum', in the pinned program and in every row, IS THE sha256 OF THE DUMP (.gsa) THAT YbulkcgqqProg.lean LOADS. Nothing in Lean hashes anything: it is a label: what it is worth is what the hold of that sum in a sandbox is worth. -/
noncomputable def Yba.pinned : Pinned := { name := "ybulkcgqq", sum := "07bc48eb2bd2367ca39a6d4d561fe2393cf1f0c40a80231666e999324ec2e284", checked := Yba.checked }
namespace Rows
def none {H : Type} : Left H := { results := [], args := [] }

/-- 'explore.LawS4137AFresh': WHATEVER THE INPUT: true; the input reads as it did. -/
def lawS4137AFreshSpec : ChangeSpec := { name := "lawS4137AFresh", fn := fun _ => fun
  | [d1, d2, d3, d4] => { results := [.lit (.bool true)], args := [d1, d2, d3, d4] }
  | _ => none }
def lawS4137AFreshRow : OpenClaim := { program := "ybulkcgqq", sum := "07bc48eb2bd2367ca39a6d4d561fe2393cf1f0c40a80231666e999324ec2e284", func := "example.com/faultline/faultline/internal/explore.LawS4137AFresh", spec := "lawS4137AFresh", apart := false }
def LawS4137AFreshSaid : Prop := lawS4137AFreshRow.holds Yba.pinned (OpenSpec.ofChange lawS4137AFreshSpec)

/-- ITS FALSE NEIGHBOUR: 'it returns false'. Refute it at one input. -/
def lawS4137AFreshWrong : ChangeSpec := { name := "lawS4137AFresh", fn := fun _ => fun
  | [d1, d2, d3, d4] => { results := [.lit (.bool false)], args := [d1, d2, d3, d4] }
  | _ => none }
def LawS4137AFreshWrongFalsely : Prop := lawS4137AFreshRow.holds Yba.pinned (OpenSpec.ofChange lawS4137AFreshWrong)

/-- 'explore.LawS4137AStable': WHATEVER THE INPUT: true; the input reads as it did. -/
def lawS4137AStableSpec : ChangeSpec := { name := "lawS4137AStable", fn := fun _ => fun
  | [d1, d2, d3] => { results := [.lit (.bool true)], args := [d1, d2, d3] }
  | _ => none }
def lawS4137AStableRow : OpenClaim := { program := "ybulkcgqq", sum := "07bc48eb2bd2367ca39a6d4d561fe2393cf1f0c40a80231666e999324ec2e284", func := "example.com/faultline/faultline/internal/explore.LawS4137AStable", spec := "lawS4137AStable", apart := false }
def LawS4137AStableSaid : Prop := lawS4137AStableRow.holds Yba.pinned (OpenSpec.ofChange lawS4137AStableSpec)

/-- ITS FALSE NEIGHBOUR: 'it returns false'. Refute it at one input. -/
def lawS4137AStableWrong : ChangeSpec := { name := "lawS4137AStable", fn := fun _ => fun
  | [d1, d2, d3] => { results := [.lit (.bool false)], args := [d1, d2, d3] }
  | _ => none }
def LawS4137AStableWrongFalsely : Prop := lawS4137AStableRow.holds Yba.pinned (OpenSpec.ofChange lawS4137AStableWrong)

/-- 'explore.LawS4137BExact': WHATEVER THE INPUT: true; the input reads as it did. -/
def lawS4137BExactSpec : ChangeSpec := { name := "lawS4137BExact", fn := fun _ => fun
  | [d1, d2, d3] => { results := [.lit (.bool true)], args := [d1, d2, d3] }
  | _ => none }
def lawS4137BExactRow : OpenClaim := { program := "ybulkcgqq", sum := "07bc48eb2bd2367ca39a6d4d561fe2393cf1f0c40a80231666e999324ec2e284", func := "example.com/faultline/faultline/internal/explore.LawS4137BExact", spec := "lawS4137BExact", apart := false }
def LawS4137BExactSaid : Prop := lawS4137BExactRow.holds Yba.pinned (OpenSpec.ofChange lawS4137BExactSpec)

/-- ITS FALSE NEIGHBOUR: 'it returns false'. Refute it at one input. -/
def lawS4137BExactWrong : ChangeSpec := { name := "lawS4137BExact", fn := fun _ => fun
  | [d1, d2, d3] => { results := [.lit (.bool false)], args := [d1, d2, d3] }
  | _ => none }
def LawS4137BExactWrongFalsely : Prop := lawS4137BExactRow.holds Yba.pinned (OpenSpec.ofChange lawS4137BExactWrong)

end Rows
end Go.Proofs.Ybulkcgqq
